import PyProof.Rows.All
import Wide.All
import OpenK.AllK
import Wide.FinOn
import PySem.Challenge.RW_bb6042_01
set_option Elab.async false
section
open PySem PySem.W PyProof.Rows
namespace Mine
set_option maxRecDepth 100000 in
set_option maxHeartbeats 8000000 in
open_top hd for PySem.Challenge.rw_bb6042_01
end Mine
end
section
open PySem PySem.W PyProof.Rows PySem.Calls
namespace Mine

/-- a frame at hand: its names are m; the heap H (which lacks the frame's own dict) is kept -/
structure Loc (H : Heap) (L : Addr) (h : Heap) (m : Str → Option Value) : Prop where
  ns : h.Ns L m
  st : H.StaysIn h
  nl : H.get? L = none

theorem Loc.keeps {H h h' : Heap} {L : Addr} {m : Str → Option Value} (F : Loc H L h m) (k : h.StaysIn h') : Loc H L h' m := ⟨F.ns.keeps k, fun b o e => k b o (F.st b o e), F.nl⟩
noncomputable abbrev KK (w : World) : Frag := hd.heap_39 w.params
abbrev LL : List Str := [Str.ofString "chain", Str.ofString "TZOLKIN", Str.ofString "tzolkin_generator"]
/-- the text's own objects in a heap -/
structure Txt (w : World) (mg mb : Str → Option Value) (h : Heap) : Prop where
  k : (KK w).In h
  t : TopRead hd.view_39 (looseW hd.view_39 LL) mg mb h
theorem Txt.keeps {w : World} {mg mb : Str → Option Value} {h h' : Heap} (x : Txt w mg mb h) (k : h.StaysIn h') : Txt w mg mb h' := ⟨x.k.keeps k, x.t.keeps k⟩

section
variable {prog : Program} {w : World} {A : Around} {E : Value → Shared → Prop} {s : Shared} {env : Env} {H : Heap} {m mg mb : Str → Option Value} {x : Str} {pos : Pos} {v : Value}
theorem ldL {Q : Value → Shared → Prop} (F : Loc H env.locals s.heap m) (hv : m x = some v) (h : Q v s) (hk : env.scope.kind = .function) (hl : env.kindOf x = some .local) (hd : (x == ("__debug__" : Str)) = false) :
    wpAny (model prog w) A (eval (.Name x pos) env) Q E s := wpAny_Name (wpAny_loadName_local hk hl F.ns hv h) hd
theorem ldG {Q : Value → Shared → Prop} (T : Txt w mg mb H) (F : Loc H env.locals s.heap m) (e : nsIn (KK w) mainGlobals x = some (some v)) (h : Q v s)
    (hk : env.scope.kind = .function) (hg : env.globals = mainGlobals) (hx : env.kindOf x = some .globalImplicit) (hd : (x == ("__debug__" : Str)) = false) : wpAny (model prog w) A (eval (.Name x pos) env) Q E s :=
  Name_function_global hk hx (loadGlobal_global (hg ▸ (T.keeps F.st).t.g) (mg_of (T.keeps F.st).k (T.keeps F.st).t.g e) h) hd
theorem ldB {Q : Value → Shared → Prop} (T : Txt w mg mb H) (F : Loc H env.locals s.heap m) (e : nsIn (KK w) mainGlobals x = some none) (hv : bootBuiltins x = some v) (hn : x ≠ "__name__") (h : Q v s)
    (hk : env.scope.kind = .function) (hg : env.globals = mainGlobals) (hb : env.builtins = builtinsNs) (hx : env.kindOf x = some .globalImplicit) (hd : (x == ("__debug__" : Str)) = false) : wpAny (model prog w) A (eval (.Name x pos) env) Q E s :=
  Name_function_global hk hx (loadGlobal_builtin (hg ▸ (T.keeps F.st).t.g) (mg_none_of (T.keeps F.st).k (T.keeps F.st).t.g e) (hb ▸ (T.keeps F.st).t.b) (((T.keeps F.st).t.builtins x hn).trans hv) h) hd
theorem stL {Q : Unit → Shared → Prop} (F : Loc H env.locals s.heap m)
    (h : ∀ h', Loc H env.locals h' (fun y => if y = x then some v else m y) → Q () { s with heap := h', toks := s.toks + 1 })
    (hk : env.scope.kind = .function) (hl : env.kindOf x = some .local) : wpAny (model prog w) A (storeName env x v) Q E s :=
  wpAny_storeName_local hl F.ns (fun h' hn hs => h h' ⟨hn, fun b o e => (hs.2 b (fun q => by rw [q, F.nl] at e; cases e)).trans (F.st b o e), F.nl⟩)
    (by rw [hk]; rfl)
end

section
variable {prog : Program} {w : World} {A : Around} {s : Shared} {mg mb : Str → Option Value} {R : Result → Shared → Prop} {f : Addr} {o : Obj} {fd : FuncData} {body : List Stmt} {args : Args} {binds : List (Str × Value)}
/-- a call of a def of the text that raises nothing: its body in a frame of its own, all else kept -/
theorem enterP (T : Txt w mg mb s.heap) (hroom : A.depth < recursionLimit) (ho : (KK w).lookup f = some o) (hdat : o.data = .func fd) (hb : fd.body = .stmts body) (hcd : codeIn (KK w) fd.code fd.qualname = true)
    (hbind : bindArgs fd args = pure binds) (hcell : ∀ x ∈ fd.scope.names, x.2 ≠ .cell) (hloc : (binds.all fun x => decide (fd.scope.names.lookup x.1 = some .local)) = true)
    (hco : fd.scope.isCoroutine = false) (hgen : fd.scope.isGenerator = false) (hk : fd.scope.kind = .function)
    (h : ∀ h₀, Loc s.heap s.heap.objs.size h₀ (fun x => binds.reverse.lookup x) →
      wpAny (model prog w) (A.deeper (callEnv fd s.heap.objs.size f)) (execs body (callEnv fd s.heap.objs.size f)) (fun fl s' => R (.ok (.ret (match fl with | .ret v => v | _ => .none))) s')
        (fun _ _ => False) { s with heap := h₀, toks := s.toks + binds.length }) : codeAny (model prog w) A (.call (.ref f) args) R s :=
  codeAny_call_def hroom (T.k _ _ ho) hdat T.t.nolimit (codeRec_of T.k hcd) hb (.of_eq hbind) hcell (locs hloc)
    (fun h₀ hns hk₀ => wpAny_mono (h h₀ ⟨hns, hk₀, Heap.get?_none_of_le (Nat.le_refl _)⟩) (fun _ _ q => q) fun _ _ q => q.elim) hco hgen hk
/-- the same, with what the body may raise -/
theorem enterR (T : Txt w mg mb s.heap) (hroom : A.depth < recursionLimit) (ho : (KK w).lookup f = some o) (hdat : o.data = .func fd) (hb : fd.body = .stmts body) (hcd : codeIn (KK w) fd.code fd.qualname = true)
    (hbind : bindArgs fd args = pure binds) (hcell : ∀ x ∈ fd.scope.names, x.2 ≠ .cell) (hloc : (binds.all fun x => decide (fd.scope.names.lookup x.1 = some .local)) = true)
    (hco : fd.scope.isCoroutine = false) (hgen : fd.scope.isGenerator = false) (hk : fd.scope.kind = .function)
    (h : ∀ h₀, Loc s.heap s.heap.objs.size h₀ (fun x => binds.reverse.lookup x) →
      wpAny (model prog w) (A.deeper (callEnv fd s.heap.objs.size f)) (execs body (callEnv fd s.heap.objs.size f)) (fun fl s' => R (.ok (.ret (match fl with | .ret v => v | _ => .none))) s')
        (fun e s' => wpAny (model prog w) (A.deeper (callEnv fd s.heap.objs.size f)) (leaving (callEnv fd s.heap.objs.size f) e) (fun _ s'' => R (.error e) s'') (fun e' s'' => R (.error e') s'') s')
        { s with heap := h₀, toks := s.toks + binds.length }) : codeAny (model prog w) A (.call (.ref f) args) R s :=
  codeAny_call_def hroom (T.k _ _ ho) hdat T.t.nolimit (codeRec_of T.k hcd) hb (.of_eq hbind) hcell (locs hloc)
    (fun h₀ hns hk₀ => h h₀ ⟨hns, hk₀, Heap.get?_none_of_le (Nat.le_refl _)⟩) hco hgen hk
end

section
variable {prog : Program} {w : World} {A : Around} {E : Value → Shared → Prop} {s : Shared} {H : Heap} {L : Addr} {m : Str → Option Value} {vs : List Value} {Q : Value → Shared → Prop}
theorem Loc.push {h : Heap} (F : Loc H L h m) (o : Obj) : Loc H L (h.push o) m := F.keeps fun _ _ e => Heap.get?_push_of_some _ e
theorem newTupleL (F : Loc H L s.heap m)
    (h : ∀ h' a, Loc H L h' m → s.heap.StaysIn h' → s.heap.get? a = none → H.get? a = none → h'.get? a = some { cls := .type "tuple", data := .seq vs.toArray } → Q (.ref a) { s with heap := h' }) (hsz : vs.length ≤ sizeLine := by size_fits) :
    wpAny (model prog w) A (newTuple vs) Q E s :=
  wpAny_newObj_type (h _ _ (F.push _) (fun _ _ e => Heap.get?_push_of_some _ e) (Heap.get?_none_of_le (Nat.le_refl _)) (Heap.StaysIn.fresh F.st) (Heap.get?_push_size _ rfl)) (by show vs.toArray.size ≤ sizeLine; rw [List.size_toArray]; exact hsz)
theorem newListL (F : Loc H L s.heap m)
    (h : ∀ h' a, Loc H L h' m → s.heap.StaysIn h' → s.heap.get? a = none → H.get? a = none → h'.get? a = some { cls := .type "list", data := .seq vs.toArray } → Q (.ref a) { s with heap := h' }) (hsz : vs.length ≤ sizeLine := by size_fits) :
    wpAny (model prog w) A (newList vs) Q E s :=
  wpAny_newObj_type (h _ _ (F.push _) (fun _ _ e => Heap.get?_push_of_some _ e) (Heap.get?_none_of_le (Nat.le_refl _)) (Heap.StaysIn.fresh F.st) (Heap.get?_push_size _ rfl)) (by show vs.toArray.size ≤ sizeLine; rw [List.size_toArray]; exact hsz)
end

section
variable {prog : Program} {w : World} {A : Around} {s : Shared} {env : Env} {x : Str} {px pos : Pos} {iter : Expr} {body : List Stmt}
/-- a for over an iterator of the library's, its turns raising nothing: J holds of the heap ahead of every turn -/
theorem ForP {Q : Flow → Shared → Prop}
    (h : wpAny (model prog w) A (eval iter env) (fun xv s₁ => wpAny (model prog w) A (pyIter xv) (fun it s₂ => ∃ (I : Addr) (fp wr : List Addr) (n : Nat) (P : Nat → Value → Prop) (St : Nat → Heap → Prop) (J : Nat → Heap → Prop),
      it = .ref I ∧ Walks prog w A I fp wr n P St ∧ St 0 s₂.heap ∧ J 0 s₂.heap ∧ (∀ i h₁ h₂, J i h₁ → (∀ b o, b ∉ wr → h₁.get? b = some o → h₂.get? b = some o) → J i h₂) ∧
      (∀ i v h₁ tk, i < n → P i v → J i h₁ → St (i + 1) h₁ → wpAny (model prog w) A (storeName env x v) (fun _ s₃ => wpAny (model prog w) A (execs body env)
        (fun f s₄ => (f = .next ∨ f = .cont) ∧ ∃ h₂ tk₂, s₄ = { s₂ with heap := h₂, toks := tk₂ } ∧ J (i + 1) h₂ ∧ ∀ b ∈ fp, ∀ o, h₁.get? b = some o → h₂.get? b = some o) (fun _ _ => False) s₃) (fun _ _ => False) { s₂ with heap := h₁, toks := tk }) ∧
      (∀ h₁ tk, J n h₁ → Q .next { s₂ with heap := h₁, toks := tk })) (fun _ _ => False) s₁) (fun _ _ => False) s)
    (hs : ∀ x, foldedSetIterable iter env x = pure x := by intro _; rfl) :
    wpAny (model prog w) A (exec (.For (.Name x px) iter body [] pos) env) Q (fun _ _ => False) s := by
  refine wpAny_For (wpAny_mono h (fun xv s₁ h₁ => wpAny_mono h₁ (fun it s₂ h₂ => ?_) fun _ _ z => z) fun _ _ z => z) hs
  obtain ⟨I, fp, wr, n, P, St, J, rfl, W, hst, hJ, hmv, turn, done⟩ := h₂
  refine codeAny_forLoop (fun k s' => ∃ h₁ tk i, s' = { s₂ with heap := h₁, toks := tk } ∧ St i h₁ ∧ J i h₁ ∧ i ≤ n ∧ k = n + 1 - i) ?_ (n + 1) ⟨s₂.heap, s₂.toks, 0, rfl, hst, hJ, Nat.zero_le _, rfl⟩
  rintro k s' ⟨h₁, tk, i, rfl, hst₁, hJ₁, hi, rfl⟩
  by_cases hlt : i < n
  · refine W.item i _ _ _ hlt hst₁ fun v h₂ tk₂ hP hst₂ hk => ?_
    refine wpAny_assign_Name (wpAny_mono (turn i v h₂ tk₂ hlt hP (hmv i _ _ hJ₁ hk) hst₂) (fun _ s₃ h₃ => wpAny_mono h₃ (fun f s₄ h₄ => ?_) fun _ _ z => z.elim) fun _ _ z => z.elim)
    obtain ⟨hf, h₅, tk₅, rfl, hJ₅, hk₅⟩ := h₄
    have fin : ∃ m, m < n + 1 - i ∧ ∃ h₁ tk i, ({ s₂ with heap := h₅, toks := tk₅ } : Shared) = { s₂ with heap := h₁, toks := tk } ∧ St i h₁ ∧ J i h₁ ∧ i ≤ n ∧ m = n + 1 - i :=
      ⟨n + 1 - (i + 1), by omega, h₅, tk₅, i + 1, rfl, W.frame _ _ _ hst₂ hk₅, hJ₅, hlt, rfl⟩
    rcases hf with rfl | rfl <;> exact fin
  · have hin : i = n := by omega
    subst hin
    refine W.done _ _ _ hst₁ fun h₂ tk₂ hk => wpAny_execs_nil ?_
    exact done h₂ tk₂ (hmv i _ _ hJ₁ hk)
end

section
variable {prog : Program} {w : World} {A : Around} {E : Value → Shared → Prop} {s : Shared} {env : Env} {H : Heap} {L : Addr} {m : Str → Option Value} {elts : List Expr} {k : Nat} {pos : Pos} {a : Addr} {o : Obj} {vs : List Value} {n : Nat}
theorem unpackL {Q : Unit → Shared → Prop} (F : Loc H L s.heap m) (hh : A.handled = none) (ht : s.heap.get? a = some o) (hc : o.cls = .type "tuple") (hd : o.data = .seq vs.toArray n)
    (hn : (assignEach elts env).length = vs.length) (hstar : (assignEach elts env).findIdx? (·.1) = none)
    (h : ∀ h', Loc H L h' m → s.heap.StaysIn h' → wpAny (model prog w) A (assignInOrder ((assignEach elts env).map (·.2)) vs) Q E { s with heap := h' }) :
    wpAny (model prog w) A (assign (.Tuple elts k pos) env (.ref a)) Q E s := by
  have ht' : s.heap.IsTuple a vs.toArray := ⟨o, ht, hc, n, hd⟩
  refine wpAny_assign_Tuple hh ht' (by rw [List.size_toArray]; exact hn) hstar fun h' hx => ?_
  have kk : s.heap.StaysIn h' := fun b o e => hx b o (Nat.ne_of_lt (Heap.lt_size e)) e
  exact h h' (F.keeps kk) kk
end

/-- the same frame over a newer ground: all that is there now but the frame's own dict -/
theorem Loc.anew {H h : Heap} {L : Addr} {m : Str → Option Value} (F : Loc H L h m) : Loc (h.hide L) L h m := ⟨F.ns, fun _ _ e => Heap.of_hide e, Heap.hide_self ..⟩
theorem Loc.sub {H h : Heap} {L : Addr} {m : Str → Option Value} (F : Loc H L h m) : H.StaysIn (h.hide L) := fun b o e => (Heap.hide_ne h (fun (q : b = L) => by rw [q, F.nl] at e; cases e)).trans (F.st b o e)
theorem Loc.inn {H h : Heap} {L a : Addr} {o : Obj} {m : Str → Option Value} (F : Loc H L h m) (e : h.get? a = some o) (ne : a ≠ L) : (h.hide L).get? a = some o := (Heap.hide_ne h ne).trans e
theorem StaysIn.trans {a b c : Heap} (x : a.StaysIn b) (y : b.StaysIn c) : a.StaysIn c := fun p o e => y p o (x p o e)
theorem ne_of_get {h : Heap} {a b : Addr} {o : Obj} (ha : h.get? a = some o) (hb : h.get? b = none) : a ≠ b := fun q => by rw [q, hb] at ha; cases ha
/-- a smaller ground: without one address -/
theorem Loc.less {H h : Heap} {L : Addr} {m : Str → Option Value} (F : Loc H L h m) (a : Addr) : Loc (H.hide a) L h m :=
  ⟨F.ns, fun b o e => F.st b o (Heap.of_hide e), by
    cases q : (H.hide a).get? L with
    | none => rfl
    | some o => have := Heap.of_hide q; rw [F.nl] at this; cases this⟩
theorem StaysIn.hide {H h : Heap} (x : H.StaysIn h) (a : Addr) (e : H.get? a = none) : H.StaysIn (h.hide a) := fun b o q => (Heap.hide_ne h (ne_of_get q e)).trans (x b o q)
theorem Loc.ne {H h : Heap} {L a : Addr} {m : Str → Option Value} (F : Loc H L h m) (e : h.get? a = none) : a ≠ L := by
  obtain ⟨o, _, _, ho, _⟩ := F.ns
  exact fun q => by rw [q, ho] at e; cases e
theorem Loc.lt {H h : Heap} {L : Addr} {m : Str → Option Value} (F : Loc H L h m) : L < h.objs.size := F.ns.lt

section
variable {prog : Program} {w : World} {A : Around} {E : Value → Shared → Prop} {s : Shared} {H : Heap} {L : Addr} {m : Str → Option Value} {Q : Value → Shared → Prop}
theorem rangeL1 {n : Int} {t : Tok} (F : Loc H L s.heap m) (h : ∀ h' r t u v tk, Loc H L h' m → s.heap.StaysIn h' → IsRange h' r 0 n 1 t u v → Q (.ref r) { s with heap := h', toks := tk }) :
    wpAny (model prog w) A (call (.type "range") [.int n t]) Q E s :=
  call_range_1 (h _ _ _ _ _ _ (F.push _) (fun _ _ e => Heap.get?_push_of_some _ e) (IsRange.new ..))
theorem rangeL2 {a b : Int} {t u : Tok} (F : Loc H L s.heap m) (h : ∀ h' r t u v tk, Loc H L h' m → s.heap.StaysIn h' → IsRange h' r a b 1 t u v → Q (.ref r) { s with heap := h', toks := tk }) :
    wpAny (model prog w) A (call (.type "range") [.int a t, .int b u]) Q E s :=
  call_range_2 (h _ _ _ _ _ _ (F.push _) (fun _ _ e => Heap.get?_push_of_some _ e) (IsRange.new ..))
theorem iterRangeL {r : Addr} {a b c : Int} {t u v : Tok} (F : Loc H L s.heap m) (hr : IsRange s.heap r a b c t u v) (hsmall : Builtin.Range.small a b c = true)
    (h : ∀ h' I, Loc H L h' m → s.heap.StaysIn h' → s.heap.get? I = none → IsRangeIter h' I a (Builtin.Range.rangeSize a b c) c → Q (.ref I) { s with heap := h' }) :
    wpAny (model prog w) A (pyIter (.ref r)) Q E s :=
  wpAny_pyIter_range hr hsmall (h _ _ (F.push _) (fun _ _ e => Heap.get?_push_of_some _ e) (Heap.get?_none_of_le (Nat.le_refl _)) (Heap.get?_push_size _ rfl))
theorem iterListL {l : Addr} {items : Array Value} (F : Loc H L s.heap m) (hl : s.heap.IsList l items)
    (h : ∀ h' I, Loc H L h' m → s.heap.StaysIn h' → s.heap.get? I = none → h'.get? I = some { cls := .type "list_iterator", data := .fields #[.ref l, .int 0 0] } → Q (.ref I) { s with heap := h' }) :
    wpAny (model prog w) A (pyIter (.ref l)) Q E s :=
  wpAny_pyIter_list hl (h _ _ (F.push _) (fun _ _ e => Heap.get?_push_of_some _ e) (Heap.get?_none_of_le (Nat.le_refl _)) (Heap.get?_push_size _ rfl))
end
end Mine
end
section
open PySem PySem.W PyProof.Rows PySem.Calls
namespace Mine
set_option maxRecDepth 100000
set_option maxHeartbeats 2000000
local macro_rules | `(tactic| walk_at "eval Name") => `(tactic| (with_unfolding_all refine' ldL ?F ?v ?_ ?k ?l ?d; (case F => assumption); (case k => rfl); (case l => rfl); (case d => rfl); (case v => rfl)))
local macro_rules | `(tactic| walk_at "eval Name") => `(tactic| (with_unfolding_all refine' ldG ?T ?F ?e ?_ ?k ?g ?x ?d; (case T => assumption); (case F => assumption); (case k => rfl); (case g => rfl); (case x => rfl); (case d => rfl); (case e => rfl)))
local macro_rules | `(tactic| walk_at "eval Name") => `(tactic| (with_unfolding_all refine' ldB ?T ?F ?e ?v ?n ?_ ?k ?g ?b ?x ?d; (case T => assumption); (case F => assumption); (case k => rfl); (case g => rfl); (case b => rfl); (case x => rfl); (case d => rfl); (case e => rfl); (case v => boot_fast); (case n => decide)))
local macro_rules | `(tactic| walk_at "storeName") => `(tactic| (with_unfolding_all refine' stL ?F ?_ ?k ?l; (case F => assumption); (case k => rfl); (case l => rfl); intro h' F'))
local macro_rules | `(tactic| walk_at "callWith ref") => `(tactic| (with_unfolding_all refine' callWith_K (K := KK _) ?X ?k ?_; (case X => exact (Txt.k (by assumption))); (case k => rfl)))
local macro_rules | `(tactic| walk_at "And") => `(tactic| (refine ⟨(Txt.keeps (by assumption) (Loc.st (by assumption))).k, ?_⟩))
local macro_rules | `(tactic| walk_at "mw") => `(tactic| repeat' (first | walk1 | (dsimp only; walk1)))

theorem amod_spec {prog : Program} {w : World} {A : Around} {s : Shared} {mg mb : Str → Option Value} {R : Result → Shared → Prop} {a b : Int} {ta tb : Tok}
    (T : Txt w mg mb s.heap) (hh : A.handled = none) (hroom : A.depth < recursionLimit) (hb : b ≠ 0)
    (h : ∀ h' t' tk', s.heap.StaysIn h' → R (.ok (.ret (.int (if a.fmod b = 0 then b else a.fmod b) t'))) { s with heap := h', toks := tk' }) :
    codeAny (model prog w) A (.call (.ref 28) ⟨[.int a ta, .int b tb], []⟩) R s := by
  refine enterP (binds := [(Str.ofString "a", .int a ta), (Str.ofString "b", .int b tb)]) T hroom rfl rfl rfl rfl rfl (by decide) rfl rfl rfl rfl fun h₀ F => ?_
  try dsimp only
  walk_at "mw"
  · rename_i h' F' hz
    have q := fun t tk => h h' t tk F'.st
    simp only [if_pos hz] at q
    exact q _ _
  · rename_i h' F' hz
    have q := fun t tk => h h' t tk F'.st
    simp only [if_neg hz] at q
    exact q _ _

/-- the twenty names -/
def nm : List Str := ["Imix'", "Ik'", "Ak'b'al", "K'an", "Chikchan", "Kimi", "Manik'", "Lamat", "Muluk", "Ok", "Chuwen", "Eb'", "B'en", "Ix", "Men", "K'ib'", "Kab'an", "Etz'nab'", "Kawak", "Ajaw"]
def nmS (i : Nat) : Str := nm.getD i Str.empty
/-- the place of a count in the round of names, its number -/
def pl (c : Int) : Nat := ((c - 1) % 20).toNat
def nu (c : Int) : Int := (c - 1) % 13 + 1
def tz : List Value := (List.range 20).map fun i => .str (nmS i) (289 + i)
theorem tz_lookup (w : World) : (KK w).lookup 83 = some { cls := .type "list", data := .seq tz.toArray } := rfl
theorem tz_get {i : Nat} (h : i < 20) : tz[i]? = some (.str (nmS i) (289 + i)) := by
  unfold tz
  rw [List.getElem?_map, List.getElem?_range h]; rfl
theorem tz_list {w : World} {h : Heap} (X : (KK w).In h) : h.IsList 83 tz.toArray := lstK X (tz_lookup w)
section
variable {prog : Program} {w : World} {A : Around} {E : Value → Shared → Prop} {s : Shared} {mg mb : Str → Option Value}
theorem tz_item {value slice : Expr} {c : Int} {t : Tok} {Q : Value → Shared → Prop} (T : Txt w mg mb s.heap) (h : Q (.str (nmS (pl c)) (289 + pl c)) s)
    (hs : subscripted slice false (.ref 83) (.int (c.fmod 20 - 1) t) = operate [.ref 83, .int (c.fmod 20 - 1) t] (getItem (.ref 83) (.int (c.fmod 20 - 1) t)) := by with_unfolding_all rfl) :
    wpAny (model prog w) A (subscriptTail value slice (.ref 83) (.int (c.fmod 20 - 1) t)) Q E s := by
  have hl := tz_list T.k
  have e : c.fmod 20 = c % 20 := Int.fmod_eq_emod_of_nonneg c (by decide)
  have hsz : (tz.toArray.size : Int) = 20 := rfl
  refine tail_any hl.typeIs slot_list_getitem.lookup ?_ hs
  by_cases h0 : c.fmod 20 - 1 < 0
  · refine wpAny_getItem_list_neg hl h0 (by rw [hsz]; omega) (by omega) ?_ h
    have : (c.fmod 20 - 1 + tz.toArray.size).toNat = pl c := by rw [hsz]; unfold pl; omega
    rw [this, List.getElem?_toArray]
    exact tz_get (by unfold pl; omega)
  · refine wpAny_getItem_list hl (by omega) (by omega) ?_ h
    have : (c.fmod 20 - 1).toNat = pl c := by unfold pl; omega
    rw [this, List.getElem?_toArray]
    exact tz_get (by unfold pl; omega)
theorem nu_is (c : Int) : (if c.fmod 13 = 0 then 13 else c.fmod 13) = nu c := by
  have e : c.fmod 13 = c % 13 := Int.fmod_eq_emod_of_nonneg c (by decide)
  unfold nu
  split <;> omega
end
/-- a day as an object -/
def dayObj (n : Int) (x : Str) (t u : Tok) : Obj := { cls := .type "tuple", data := .seq [Value.int n t, .str x u].toArray }
local macro_rules | `(tactic| walk_at "subscriptTail") => `(tactic| (with_unfolding_all refine' tz_item ?T ?_; (case T => exact Txt.keeps (by assumption) (Loc.st (by assumption)))))
local macro_rules | `(tactic| walk_at "newTuple") => `(tactic| (refine newTupleL (by assumption) (fun h' a' F' ka na Na oa => ?_)))
local macro_rules | `(tactic| walk_at "newList") => `(tactic| (refine newListL (by assumption) (fun h' a' F' ka na Na oa => ?_)))
theorem from_count_spec {prog : Program} {w : World} {A : Around} {s : Shared} {mg mb : Str → Option Value} {R : Result → Shared → Prop} {c : Int} {t : Tok}
    (T : Txt w mg mb s.heap) (hh : A.handled = none) (hroom : A.depth + 4 < recursionLimit)
    (h : ∀ h' a t' u' tk', s.heap.StaysIn h' → s.heap.get? a = none → h'.get? a = some (dayObj (nu c) (nmS (pl c)) t' u') → R (.ok (.ret (.ref a))) { s with heap := h', toks := tk' }) :
    codeAny (model prog w) A (.call (.ref 90) ⟨[.int c t], []⟩) R s := by
  refine enterP (binds := [(Str.ofString "count", .int c t)]) T (by omega) rfl rfl rfl rfl rfl (by decide) rfl rfl rfl rfl fun h₀ F => ?_
  try dsimp only
  walk_at "mw"
  refine wpAny_call (amod_spec (T.keeps F.st) hh (by simp only [Around.deeper]; omega) (by decide) fun h₁ t₁ tk₁ k₁ => ?_)
  have F₁ := F.keeps k₁
  clear F
  rw [nu_is]
  dsimp only
  walk_at "mw"
  rename_i F' _ _ Na oa
  exact h _ _ _ _ _ F'.st Na oa
/-- what a list of the twenty names is -/
def Names (l : List Value) : Prop := l.length = 20 ∧ ∀ i, i < 20 → ∃ t, l[i]? = some (.str (nmS i) t)
theorem names_spec {prog : Program} {w : World} {A : Around} {s : Shared} {mg mb : Str → Option Value} {R : Result → Shared → Prop}
    (T : Txt w mg mb s.heap) (hroom : A.depth < recursionLimit)
    (h : ∀ h' a l tk', s.heap.StaysIn h' → s.heap.get? a = none → Names l → h'.get? a = some { cls := .type "list", data := .seq l.toArray } → R (.ok (.ret (.ref a))) { s with heap := h', toks := tk' }) :
    codeAny (model prog w) A (.call (.ref 112) ⟨[], []⟩) R s := by
  refine enterP (binds := []) T hroom rfl rfl rfl rfl rfl (by decide) rfl rfl rfl rfl fun h₀ F => ?_
  try dsimp only
  walk_at "mw"
  rename_i F' _ _ Na oa
  refine h _ _ _ _ F'.st Na ⟨rfl, fun i hi => ?_⟩ oa
  rcases i with _ | _ | _ | _ | _ | _ | _ | _ | _ | _ | _ | _ | _ | _ | _ | _ | _ | _ | _ | _ | i
  all_goals first | exact ⟨_, rfl⟩ | omega
end Mine
end
section
open PySem PySem.W PyProof.Rows PySem.Calls
set_option linter.unusedVariables false
namespace Mine
set_option maxRecDepth 100000
set_option maxHeartbeats 4000000
local macro_rules | `(tactic| walk_at "eval Name") => `(tactic| (with_unfolding_all refine' ldL ?F ?v ?_ ?k ?l ?d; (case F => assumption); (case k => rfl); (case l => rfl); (case d => rfl); (case v => first | assumption | rfl)))
local macro_rules | `(tactic| walk_at "eval Name") => `(tactic| (with_unfolding_all refine' ldG ?T ?F ?e ?_ ?k ?g ?x ?d; (case T => assumption); (case F => assumption); (case k => rfl); (case g => rfl); (case x => rfl); (case d => rfl); (case e => rfl)))
local macro_rules | `(tactic| walk_at "eval Name") => `(tactic| (with_unfolding_all refine' ldB ?T ?F ?e ?v ?n ?_ ?k ?g ?b ?x ?d; (case T => assumption); (case F => assumption); (case k => rfl); (case g => rfl); (case b => rfl); (case x => rfl); (case d => rfl); (case e => rfl); (case v => boot_fast); (case n => decide)))
local macro_rules | `(tactic| walk_at "storeName") => `(tactic| (with_unfolding_all refine' stL ?F ?_ ?k ?l; (case F => assumption); (case k => rfl); (case l => rfl); intro h' F'))
local macro_rules | `(tactic| walk_at "callWith ref") => `(tactic| (with_unfolding_all refine' callWith_K (K := KK _) ?X ?k ?_; (case X => exact (Txt.k (by assumption))); (case k => rfl)))
local macro_rules | `(tactic| walk_at "callWith ref") => `(tactic| (with_unfolding_all refine' callWith_K0 (K := KK _) ?X ?k ?_; (case X => exact (Txt.keeps (by assumption) (Loc.st (by assumption))).k); (case k => rfl)))
local macro_rules | `(tactic| walk_at "And") => `(tactic| (refine ⟨(Txt.keeps (by assumption) (Loc.st (by assumption))).k, ?_⟩))
local macro_rules | `(tactic| walk_at "assign Tuple") => `(tactic| (refine' unpackL ?F ?hh ?ht ?hc ?hd ?hn ?hs ?_; (case F => assumption); (case hh => assumption); (case ht => assumption); (case hc => rfl); (case hd => rfl); (case hn => rfl); (case hs => rfl); intro h' F' k'))
local macro_rules | `(tactic| walk_at "tree") => `(tactic| first | (with_reducible show wpAny _ _ _ _ _ _) | (with_reducible show (if _ then _ else _)) | (with_reducible show Frag.In _ _ ∧ _))
local macro_rules | `(tactic| walk_at "mw") => `(tactic| repeat' (first | (walk_at "tree"; walk1) | (dsimp only; walk_at "tree"; walk1)))
local macro_rules | `(tactic| walk_at "newTuple") => `(tactic| (refine newTupleL (by assumption) (fun h' a' F' ka na Na oa => ?_)))

/-- a list's values are these days: a number, the place of a name -/
inductive DayL (h : Heap) : List Value → List (Int × Nat) → Prop
  | nil : DayL h [] []
  | cons {a : Addr} {n : Int} {p : Nat} {t u : Tok} {vs : List Value} {ds : List (Int × Nat)} : h.get? a = some (dayObj n (nmS p) t u) → DayL h vs ds → DayL h (.ref a :: vs) ((n, p) :: ds)
theorem DayL.keeps {h h' : Heap} (k : h.StaysIn h') : ∀ {vs : List Value} {ds : List (Int × Nat)}, DayL h vs ds → DayL h' vs ds
  | _, _, .nil => .nil
  | _, _, .cons e r => .cons (k _ _ e) (r.keeps k)
theorem DayL.append {h : Heap} : ∀ {vs ws : List Value} {ds es : List (Int × Nat)}, DayL h vs ds → DayL h ws es → DayL h (vs ++ ws) (ds ++ es)
  | _, _, _, _, .nil, q => q
  | _, _, _, _, .cons e r, q => .cons e (r.append q)
theorem DayL.length {h : Heap} : ∀ {vs : List Value} {ds : List (Int × Nat)}, DayL h vs ds → vs.length = ds.length
  | _, _, .nil => rfl
  | _, _, .cons _ r => by rw [List.length_cons, List.length_cons, r.length]
/-- the round of days as the law walks it -/
def dayAt (i : Nat) : Int × Nat := ((i % 13 : Nat) + 1, i % 20)
def round (n : Nat) : List (Int × Nat) := (List.range n).map dayAt


theorem names_item {prog : Program} {w : World} {A : Around} {E : Value → Shared → Prop} {s : Shared} {value slice : Expr} {a : Addr} {l : List Value} {n : Nat} {p : Int} {t : Tok} {Q : Value → Shared → Prop} (ho : s.heap.get? a = some { cls := .type "list", data := .seq l.toArray n }) (N : Names l) (h0 : 0 ≤ p) (h1 : p < 20)
    (h : ∀ u, Q (.str (nmS p.toNat) u) s) (hs : subscripted slice false (.ref a) (.int p t) = operate [.ref a, .int p t] (getItem (.ref a) (.int p t)) := by with_unfolding_all rfl) :
    wpAny (model prog w) A (subscriptTail value slice (.ref a) (.int p t)) Q E s := by
  have hl : s.heap.IsList a l.toArray := ⟨_, ho, rfl, _, rfl⟩
  obtain ⟨u, hu⟩ := N.2 p.toNat (by omega)
  exact tail_any hl.typeIs slot_list_getitem.lookup (wpAny_getItem_list hl h0 (by omega) (by rw [List.getElem?_toArray]; exact hu) (h u)) hs

/-- what holds ahead of a turn of the round's loop -/
def RoundJ (H₀ : Heap) (L D I : Addr) (i : Nat) (h : Heap) : Prop :=
  ∃ (B : Heap) (m : Str → Option Value) (vs : List Value) (n : Nat) (t u : Tok), H₀.StaysIn B ∧ B.StaysIn h ∧ B.get? L = none ∧ B.get? D = none ∧ B.get? I = none ∧ h.Ns L m ∧
    m (Str.ofString "days") = some (.ref D) ∧ m (Str.ofString "number") = some (.int (dayAt i).1 t) ∧ m (Str.ofString "place") = some (.int ((dayAt i).2 : Nat) u) ∧
    h.get? D = some { cls := .type "list", data := .seq vs.toArray n } ∧ DayL B vs (round i)
theorem RoundJ.moves {H₀ : Heap} {L D I : Addr} {i : Nat} {h h' : Heap} (hL : L ≠ I) (hD : D ≠ I) (x : RoundJ H₀ L D I i h) (k : ∀ b o, b ∉ [I] → h.get? b = some o → h'.get? b = some o) : RoundJ H₀ L D I i h' := by
  obtain ⟨B, m, vs, n, t, u, h1, h2, h3, h4, h5, h6, h7, h8, h9, h10, h11⟩ := x
  exact ⟨B, m, vs, n, t, u, h1, fun b o e => k b o (by simpa using ne_of_get e h5) (h2 b o e), h3, h4, h5, h6.at' fun o e => k _ o (by simpa using hL) e, h7, h8, h9, k _ _ (by simpa using hD) h10, h11⟩

theorem round_spec {prog : Program} {w : World} {A : Around} {s : Shared} {mg mb : Str → Option Value} {R : Result → Shared → Prop}
    (T : Txt w mg mb s.heap) (hh : A.handled = none) (hroom : A.depth + 4 < recursionLimit)
    (h : ∀ h' a l n tk', s.heap.StaysIn h' → s.heap.get? a = none → DayL h' l (round 260) → h'.get? a = some { cls := .type "list", data := .seq l.toArray n } → R (.ok (.ret (.ref a))) { s with heap := h', toks := tk' }) :
    codeAny (model prog w) A (.call (.ref 126) ⟨[], []⟩) R s := by
  refine enterP (binds := []) T (by omega) rfl rfl rfl rfl rfl (by decide) rfl rfl rfl rfl fun h₀ F => ?_
  try dsimp only
  walk_at "mw"
  refine newListL F (fun h₁ D F₁ _ nD hD0 hD => ?_)
  have hDL := F.ne nD
  have F₂ := F₁.anew
  have T₂ := T.keeps F₁.sub
  have hs₂ : s.heap.StaysIn _ := F₁.sub
  have hD₂ := F₁.inn hD hDL
  clear F F₁ nD
  walk_at "mw"
  refine ForP ?_
  walk_at "mw"
  rename_i F₃
  refine rangeL1 F₃ fun h₃ r t₃ u₃ v₃ tk₃ F₄ _ hr => ?_
  clear F₃
  walk_at "mw"
  refine iterRangeL F₄ hr (by decide) fun h₄ I F₅ _ nI hI => ?_
  have hD₅ := F₅.st _ _ hD₂
  have hDI : D ≠ I := ne_of_get (F₄.st _ _ hD₂) nI
  have hLI : s.heap.objs.size ≠ I := (F₄.ne nI).symm
  have nIB : (h₁.hide s.heap.objs.size).get? I = none := by
    cases q : (h₁.hide s.heap.objs.size).get? I with
    | none => rfl
    | some o => have := F₄.st _ _ q; rw [nI] at this; cases this
  clear F₄
  refine ⟨I, _, _, 260, _, _, RoundJ s.heap s.heap.objs.size D I, rfl, Walks.range (by exact hh) I 0 1 260, ?_, ?_, fun i g g' x k => x.moves hLI hDI k, ?_, ?_⟩
  · exact hI
  · exact ⟨(h₁.hide s.heap.objs.size).hide D, _, [], 0, _, _, StaysIn.hide hs₂ _ hD0, (F₅.less D).st, (F₅.less D).nl, Heap.hide_self .., (Heap.hide_ne _ hDI.symm).trans nIB, F₅.ns, rfl, rfl, rfl, hD₅, .nil⟩
  · rintro i v h₆ tk₆ hi ⟨tv, rfl⟩ ⟨B, m, vs, n, t, u, b1, b2, b3, b4, b5, b6, b7, b8, b9, b10, b11⟩ hst
    have F₆ : Loc (h₆.hide s.heap.objs.size) s.heap.objs.size h₆ m := ⟨b6, fun _ _ e => Heap.of_hide e, Heap.hide_self ..⟩
    have hB₆ : B.StaysIn (h₆.hide s.heap.objs.size) := StaysIn.hide b2 _ b3
    clear T₂ F₅
    have T₆ : Txt w mg mb (h₆.hide s.heap.objs.size) := T.keeps (StaysIn.trans b1 hB₆)
    walk_at "mw"
    rename_i h₇ F₇
    have b10' : h₇.get? D = some { cls := .type "list", data := .seq vs.toArray n } := F₇.st _ _ (F₆.inn b10 hDL)
    refine getMethod_list_append b10' rfl rfl ?_
    walk_at "mw"
    refine wpAny_call (names_spec (T₆.keeps F₇.st) (by simp only [Around.deeper]; omega) fun h₈ N l tk₈ k₈ nN hN oN => ?_)
    have F₈ := F₇.keeps k₈
    clear F₇
    dsimp only
    walk_at "mw"
    refine names_item oN hN (by omega) (by unfold dayAt; omega) fun u' => ?_
    walk_at "mw"
    rename_i h₉ a F₉ k₉ n₉ N₉ o₉
    have bD : h₉.get? D = some { cls := .type "list", data := .seq vs.toArray n } := F₉.st _ _ (F₆.inn b10 hDL)
    have hlen : vs.length = i := by have := b11.length; unfold round at this; rw [List.length_map, List.length_range] at this; exact this
    refine append_at bD (fun h₁₀ hs₁₀ oD => ?_) (by rw [List.size_toArray, hlen, sizeLine_eq]; omega)
    have hB₉ : B.StaysIn h₉ := StaysIn.trans hB₆ F₉.st
    have F₁₀' : Loc ((h₉.hide s.heap.objs.size).hide D) s.heap.objs.size h₁₀ _ := ⟨F₉.ns.at' fun o e => (hs₁₀.2 _ hDL.symm).trans e, fun b o e => (hs₁₀.2 b (ne_of_get e (Heap.hide_self ..))).trans (Heap.of_hide (Heap.of_hide e)), (F₉.anew.less D).nl⟩
    have T₁₀ : Txt w mg mb (h₁₀.hide s.heap.objs.size) := T.keeps (StaysIn.trans (StaysIn.hide (StaysIn.hide (StaysIn.trans b1 hB₉) _ (Heap.get?_none_of_le (Nat.le_refl _))) _ hD0) F₁₀'.sub)
    have hB₁₀ : B.StaysIn (h₁₀.hide s.heap.objs.size) := StaysIn.trans (StaysIn.hide (StaysIn.hide hB₉ _ b3) _ b4) F₁₀'.sub
    have oD' := F₁₀'.inn oD hDL
    have o₁₀ : (h₁₀.hide s.heap.objs.size).get? a = some (dayObj (dayAt i).1 (nmS (dayAt i).2) t u') := F₁₀'.inn ((hs₁₀.2 a ((ne_of_get (F₈.st _ _ (F₆.inn b10 hDL)) n₉).symm)).trans o₉) (F₈.ne n₉)
    have F₁₀ := F₁₀'.anew
    have hI₁₀ : I ≠ s.heap.objs.size := hLI.symm
    have haI : a ≠ I := (ne_of_get (F₈.st _ _ (F₆.inn hst hI₁₀)) n₉).symm
    have haD : a ≠ D := (ne_of_get (F₈.st _ _ (F₆.inn b10 hDL)) n₉).symm
    have F₁₀k : ∀ b o, b ≠ s.heap.objs.size → b ≠ D → h₆.get? b = some o → (h₁₀.hide s.heap.objs.size).get? b = some o := fun b o q q' e => F₁₀'.sub _ _ ((Heap.hide_ne _ q').trans ((Heap.hide_ne _ q).trans (F₉.st _ _ (F₆.inn e q))))
    clear F₆ F₈ F₉ T₆ F₁₀'
    walk_at "mw"
    rename_i h₁₁ F₁₁ h₁₂ F₁₂
    dsimp only at F₁₂ ⊢
    have e1 : ((dayAt i).1).fmod 13 + 1 = (dayAt (i + 1)).1 := by unfold dayAt; dsimp only; rw [Int.fmod_eq_emod_of_nonneg _ (by decide)]; omega
    have e2 : (((dayAt i).2 : Int) + 1).fmod 20 = ((dayAt (i + 1)).2 : Nat) := by unfold dayAt; dsimp only; rw [Int.fmod_eq_emod_of_nonneg _ (by decide)]; omega
    rw [e1, e2] at F₁₂
    have eD : h₁₂.get? D = some { cls := .type "list", data := .seq (vs ++ [Value.ref a]).toArray (n + 1) } := by rw [F₁₂.st _ _ oD', List.push_toArray]
    have eB : B.StaysIn (((h₁₂.hide s.heap.objs.size).hide D).hide I) := StaysIn.hide (StaysIn.hide (StaysIn.hide (StaysIn.trans hB₁₀ F₁₂.st) _ b3) _ b4) _ b5
    have gL : (((h₁₂.hide s.heap.objs.size).hide D).hide I).get? s.heap.objs.size = none := (Heap.hide_ne _ hLI).trans ((Heap.hide_ne _ hDL.symm).trans (Heap.hide_self ..))
    have gD : (((h₁₂.hide s.heap.objs.size).hide D).hide I).get? D = none := (Heap.hide_ne _ hDI).trans (Heap.hide_self ..)
    refine ⟨.inl rfl, _, _, rfl, ⟨((h₁₂.hide s.heap.objs.size).hide D).hide I, _, vs ++ [Value.ref a], n + 1, _, _, StaysIn.trans b1 eB, fun b o e => Heap.of_hide (Heap.of_hide (Heap.of_hide e)), gL, gD, Heap.hide_self .., F₁₂.ns, by with_unfolding_all exact b7, by with_unfolding_all rfl, by with_unfolding_all rfl, eD, ?_⟩, ?_⟩
    · have e3 : round (i + 1) = round i ++ [dayAt i] := by unfold round; rw [List.range_succ, List.map_append]; rfl
      rw [e3]
      exact (b11.keeps eB).append (.cons ((Heap.hide_ne _ haI).trans ((Heap.hide_ne _ haD).trans (StaysIn.hide F₁₂.st _ (Heap.hide_self ..) _ _ o₁₀))) .nil)
    · intro b hb o e
      cases List.mem_singleton.1 hb
      exact F₁₂.st _ _ (F₁₀k _ _ hI₁₀ hDI.symm e)
  · rintro h₆ tk₆ ⟨B, m, vs, n, t, u, b1, b2, b3, b4, b5, b6, b7, b8, b9, b10, b11⟩
    have F₆ : Loc (h₆.hide s.heap.objs.size) s.heap.objs.size h₆ m := ⟨b6, fun _ _ e => Heap.of_hide e, Heap.hide_self ..⟩
    walk_at "mw"
    exact h _ _ _ _ _ (StaysIn.trans b1 b2) hD0 (b11.keeps b2) b10
end Mine
end
section
open PySem PySem.W PyProof.Rows PySem.Calls
set_option linter.unusedVariables false
namespace Mine
set_option maxRecDepth 100000
set_option maxHeartbeats 4000000

/-- the addresses of the frames on the stack -/
def fsOf (l : List Env) : List Addr := l.filterMap (·.frame)
/-- these frames are the same objects but for their slots -/
def Slt (l : List Addr) (h h' : Heap) : Prop := ∀ b ∈ l, ∀ o, h.get? b = some o → ∃ sl, h'.get? b = some { o with slots := sl }
theorem Slt.refl (l : List Addr) (h : Heap) : Slt l h h := fun _ _ o e => ⟨o.slots, e⟩
theorem Slt.trans {l : List Addr} {a b c : Heap} (x : Slt l a b) (y : Slt l b c) : Slt l a c := fun p hp o e =>
  let ⟨_, e₁⟩ := x p hp o e; let ⟨sl, e₂⟩ := y p hp _ e₁; ⟨sl, e₂⟩
theorem Slt.of_keeps {l : List Addr} {h h' : Heap} (k : ∀ b o, b ∈ l → h.get? b = some o → h'.get? b = some o) : Slt l h h' := fun b hb o e => ⟨o.slots, k b o hb e⟩
theorem Slt.mono {l l' : List Addr} {h h' : Heap} (x : Slt l h h') (s : ∀ b ∈ l', b ∈ l) : Slt l' h h' := fun b hb => x b (s b hb)
theorem Slt.ns {l : List Addr} {h h' : Heap} {a : Addr} {m : Str → Option Value} (x : Slt l h h') (hn : h.Ns a m) (ha : a ∈ l) : h'.Ns a m := by
  obtain ⟨o, es, ep, ho, hd, r⟩ := hn
  obtain ⟨sl, hs⟩ := x a ha o ho
  exact ⟨_, es, ep, hs, hd, r⟩

/-- the stack's frames are in this heap, and not in its ground B -/
structure Blw (A : Around) (B : Heap) (l : List Env) (h : Heap) : Prop where
  stack : A.frames = some l
  stays : B.StaysIn h
  frames : h.FunFrames B l
theorem Blw.no {A : Around} {B h : Heap} {l : List Env} (K : Blw A B l h) {b : Addr} (hb : b ∈ fsOf l) : B.get? b = none := (K.frames.mem hb).1
theorem Blw.there {A : Around} {B h : Heap} {l : List Env} (K : Blw A B l h) {b : Addr} (hb : b ∈ fsOf l) : ∃ o, h.get? b = some o ∧ ∀ vs, o.data ≠ .fields vs := (K.frames.mem hb).2
theorem Blw.notin {A : Around} {B h : Heap} {l : List Env} (K : Blw A B l h) {b : Addr} {o : Obj} (e : B.get? b = some o) : b ∉ fsOf l := fun hb => by rw [K.no hb] at e; cases e
theorem Blw.slt {A : Around} {B h h' : Heap} {l : List Env} (K : Blw A B l h) (u : h.UpToSlots h') : Slt (fsOf l) h h' := fun b hb o e => by
  obtain ⟨o', e', hn⟩ := K.there hb
  rw [e] at e'; cases e'
  exact u b o e hn
theorem funFrames_slt {B h h' : Heap} : ∀ {l : List Env}, h.FunFrames B l → Slt (fsOf l) h h' → h'.FunFrames B l
  | [], _, _ => trivial
  | env :: rest, ⟨hk, ⟨L, o, hf, hn, ho, hd⟩, hr⟩, x => by
    have hL : L ∈ fsOf (env :: rest) := by unfold fsOf; rw [List.filterMap_cons, hf]; exact .head _
    obtain ⟨sl, e⟩ := x L hL o ho
    exact ⟨hk, ⟨L, _, hf, hn, e, hd⟩, funFrames_slt hr (x.mono fun b hb => by unfold fsOf; rw [List.filterMap_cons, hf]; exact .tail _ hb)⟩
theorem Blw.move {A : Around} {B h h' : Heap} {l : List Env} (K : Blw A B l h) (x : Slt (fsOf l) h h') (st : B.StaysIn h') : Blw A B l h' := ⟨K.stack, st, funFrames_slt K.frames x⟩
theorem Blw.keeps {A : Around} {B h h' : Heap} {l : List Env} (K : Blw A B l h) (k : h.StaysIn h') : Blw A B l h' := K.move (Slt.of_keeps fun b o _ e => k b o e) (StaysIn.trans K.stays k)
theorem funFrames_ground {B h : Heap} (B' : Heap) : ∀ {l : List Env}, h.FunFrames B l → (∀ b ∈ fsOf l, B'.get? b = none) → h.FunFrames B' l
  | [], _, _ => trivial
  | env :: rest, ⟨hk, ⟨L, o, hf, hn, ho, hd⟩, hr⟩, x =>
    ⟨hk, ⟨L, o, hf, x L (by unfold fsOf; rw [List.filterMap_cons, hf]; exact .head _), ho, hd⟩, funFrames_ground B' hr fun b hb => x b (by unfold fsOf; rw [List.filterMap_cons, hf]; exact .tail _ hb)⟩
/-- another ground: any heap that stays and lacks the frames -/
theorem Blw.onto {A : Around} {B h : Heap} {l : List Env} (K : Blw A B l h) (B' : Heap) (st : B'.StaysIn h) (hn : ∀ b ∈ fsOf l, B'.get? b = none) : Blw A B' l h := ⟨K.stack, st, funFrames_ground B' K.frames hn⟩
/-- all that is there but the frames -/
def gr (h : Heap) (l : List Env) : Heap := hideAll h (fsOf l)
theorem gr_st (h : Heap) (l : List Env) : (gr h l).StaysIn h := fun _ _ e => of_hideAll _ e
theorem gr_no {h : Heap} {l : List Env} {b : Addr} (hb : b ∈ fsOf l) : (gr h l).get? b = none := hideAll_none _ hb
theorem gr_get {h : Heap} {l : List Env} {b : Addr} {o : Obj} (e : h.get? b = some o) (hb : b ∉ fsOf l) : (gr h l).get? b = some o := hideAll_get _ e hb
theorem Blw.atGr {A : Around} {B h : Heap} {l : List Env} (K : Blw A B l h) : Blw A (gr h l) l h := K.onto _ (gr_st h l) fun _ hb => gr_no hb
theorem Blw.sub {A : Around} {B h : Heap} {l : List Env} (K : Blw A B l h) : B.StaysIn (gr h l) := fun b o e => gr_get (K.stays b o e) (K.notin e)
/-- one frame more -/
theorem Blw.inn {A A' : Around} {B h : Heap} {l : List Env} {env : Env} {L : Addr} {m : Str → Option Value} (K : Blw A B l h) (hn : h.Ns L m) (hB : B.get? L = none) (hf : env.frame = some L) (hk : env.scope.kind ≠ .module)
    (hA : A'.frames = some (env :: l)) : Blw A' B (env :: l) h := ⟨hA, K.stays, Heap.FunFrames.cons hk hf hn hB K.frames⟩
theorem fs_cons {env : Env} {l : List Env} {L : Addr} (hf : env.frame = some L) : fsOf (env :: l) = L :: fsOf l := by unfold fsOf; rw [List.filterMap_cons, hf]

/-- an exception on its way out: it is there, of this class, with its trace; all of B is kept -/
def Fly (B : Heap) (l : List Env) (e : Addr) (X : String) (h : Heap) : Prop := ∃ a0, Heap.FlyingW B l e (.type X) a0 h
theorem Fly.st {B h : Heap} {l : List Env} {e : Addr} {X : String} (x : Fly B l e X h) : B.StaysIn h := let ⟨_, y⟩ := x; y.1
theorem Fly.type {B : Heap} {l : List Env} {e : Addr} {X : String} {s : Shared} (x : Fly B l e X s.heap) : s.TypeIs (.ref e) X := let ⟨_, y⟩ := x; y.there

section
variable {M : Model} {A : Around} {E : Value → Shared → Prop} {s : Shared} {env : Env} {B h : Heap} {l : List Env} {L e : Addr} {X : String}
theorem leaveNew {args : List Value} {Q : Unit → Shared → Prop} (K : Blw A B (env :: l) h) (hf : env.frame = some L) (hx : Heap.MadeExcOf h s.heap e (.type X) args)
    (hQ : ∀ h', Fly B l e X h' → s.heap.UpToSlots h' → Q () { s with heap := h' }) : wpAny M A (leaving env (.ref e)) Q E s :=
  wpAny_leaves_madeW K.stack hf K.stays K.frames hx fun h' t x _ _ u => hQ h' ⟨_, x⟩ u
theorem leaveOn {Q : Unit → Shared → Prop} (hfr : A.frames = some (env :: l)) (hf : env.frame = some L) (x : Fly B (env :: l) e X s.heap)
    (hQ : ∀ h', Fly B l e X h' → s.heap.UpToSlots h' → Q () { s with heap := h' }) : wpAny M A (leaving env (.ref e)) Q E s :=
  let ⟨_, y⟩ := x; wpAny_leaves_onW hfr hf y fun h' z u => hQ h' ⟨_, z⟩ u
/-- an exception of this very frame's own making is noted in it -/
theorem noteNew {args : List Value} {Q : Unit → Shared → Prop} (K : Blw A B (env :: l) h) (hf : env.frame = some L) (hx : Heap.MadeExcOf h s.heap e (.type X) args)
    (hQ : ∀ h' a0, Heap.HeldW B (env :: l) e (.type X) a0 L h' → s.heap.UpToSlots h' → Q () { s with heap := h' }) : wpAny M A (noteFrame (.ref e) env) Q E s := by
  obtain ⟨t, he, htn, ht⟩ := hx.there
  have fresh : ∀ b, h.get? b = none → B.get? b = none := fun b hb => by
    cases hq : B.get? b with
    | none => rfl
    | some o' => have := K.stays b o' hq; rw [hb] at this; cases this
  unfold noteFrame
  simp only [hf]
  refine wpAny_bind (wpAny_field he rfl (x := .none) rfl ?_)
  rw [if_neg (by decide)]
  exact wpAny_entryW K.stack (K.frames.of_keeps fun b o hb _ => ⟨o, hx.keeps b o hb, rfl⟩) hf he (StaysIn.trans K.stays hx.keeps) (fresh e hx.new) rfl (by simp) (a0 := .ref t) rfl
    fun h' ⟨k1, k2, k3, k4⟩ => hQ h' _ ⟨k1, fresh e hx.new, k2, k3⟩ k4
theorem noteOn {Q : Unit → Shared → Prop} (hfr : A.frames = some (env :: l)) (hf : env.frame = some L) (x : Fly B (env :: l) e X s.heap)
    (hQ : ∀ h' a0, Heap.HeldW B (env :: l) e (.type X) a0 L h' → s.heap.UpToSlots h' → Q () { s with heap := h' }) : wpAny M A (noteFrame (.ref e) env) Q E s :=
  let ⟨_, y⟩ := x; wpAny_looks_onW hfr hf y fun h' z u => hQ h' _ z u
/-- flagged as in flight in this frame -/
theorem flightHere {a0 : Value} {Q : Unit → Shared → Prop} (x : Heap.FlyingW B l e (.type X) a0 s.heap) (hQ : ∀ h', Heap.HeldW B l e (.type X) a0 L h' → s.heap.UpToSlots h' → Q () { s with heap := h' }) :
    wpAny M A (setFlight (.ref e) (some L)) Q E s := by
  obtain ⟨hkb, hen, hl, oe, vs, T, oT, ts, he, hcls, hd, h1, hnT, hTe, hT, hdT, h3⟩ := x
  have hsz3 : 3 < ts.size := (Array.getElem?_eq_some_iff.mp h3).1
  have other : ∀ b, b ≠ T → (s.heap.update T (Obj.mapFields (·.setIfInBounds 3 ((some L : Option Addr).elim Value.none fun f => rawInt f)))).get? b = s.heap.get? b :=
    fun b hb => Heap.get?_update_other _ _ (Ne.symm hb)
  have noRecord : ∀ b o, s.heap.get? b = some o → (∀ vs, o.data ≠ .fields vs) → b ≠ T := fun b o hb hnf q => by
    rw [q, hT] at hb; injection hb with hb; subst hb; exact hnf ts hdT
  unfold setFlight
  refine wpAny_bind (wpAny_field he hd h1 ?_)
  rw [if_pos (show (Value.ref T != Value.none) = true from by simp)]
  refine wpAny_setField hT hdT hsz3 (hQ _ ⟨fun b o hbo => (other b fun q => by rw [q, hnT] at hbo; cases hbo).trans (hkb b o hbo), hen,
    hl.of_keeps fun b o hb hnf => ⟨o, (other b (noRecord b o hb hnf)).trans hb, rfl⟩, ?_⟩ fun b o hb hnf => ⟨o.slots, (other b (noRecord b o hb hnf)).trans hb⟩)
  exact ⟨oe, vs, T, _, _, (other e (Ne.symm hTe)).trans he, hcls, hd, h1, hnT, hTe, Heap.get?_update_self _ hT (Obj.isFreed_of_fields (Obj.data_mapFields hdT _)), Obj.data_mapFields hdT _, by simp [hsz3]⟩
end

section
variable {prog : Program} {w : World} {A : Around} {E : Value → Shared → Prop} {s : Shared} {env : Env} {B : Heap} {l : List Env} {L e : Addr} {X T' : String} {m mg mb : Str → Option Value} {a0 : Value}
  {x : Str} {b₀ : Stmt} {suite : List Stmt} {pos np : Pos} {rest : List ExceptHandler} {Q : Flow → Shared → Prop} {b : Bool}
/-- a handler whose class is one of the built-ins looks at an exception -/
theorem handleK (T : Txt w mg mb B) (hns : s.heap.Ns L m) (hB : B.get? L = none) (fl : Heap.FlyingW B l e (.type X) a0 s.heap) (e1 : nsIn (KK w) mainGlobals x = some none) (hv : bootBuiltins x = some (.type T')) (hn : x ≠ "__name__")
    (hL : env.locals = L) (hk : env.scope.kind = .function) (hg : env.globals = mainGlobals) (hb : env.builtins = builtinsNs) (hx : env.kindOf x = some .globalImplicit) (hd : (x == ("__debug__" : Str)) = false)
    (hexc : isSubtype (.type T') (.type "BaseException") = pure true) (hnt : isSubtype (.type ((Manifest.find? T').elim "type" fun y => y.metatype)) (.type "tuple") = pure false) (hsub : isSubtype (.type X) (.type T') = pure b)
    (k : if b then ∀ h', Heap.FlyingW B l e (.type X) a0 h' → s.heap.UpToSlots h' → wpAny (model prog w) (A.mark (some (.ref e))) (execs (b₀ :: suite) env) Q (notedBy (model prog w) (A.mark (some (.ref e))) env (cameBackBy (model prog w) A env E)) { s with heap := h' }
      else wpAny (model prog w) A (handleBy (.ref e) env rest) Q E s) :
    wpAny (model prog w) A (handleBy (.ref e) env (.ExceptHandler (some (.Name x np)) none (b₀ :: suite) pos :: rest)) Q E s := by
  have F : Loc B env.locals s.heap m := ⟨hL ▸ hns, fl.1, hL ▸ hB⟩
  refine wpAny_handleBy_builtin (X := X) (T := T') (b := b) hexc hnt hsub (ldB T F e1 hv hn ⟨rfl, fl.there, ?_⟩ hk hg hb hx hd)
  cases b with
  | true =>
    rw [if_pos rfl] at k ⊢
    exact lands_againW fl fun h₆ fl₆ u₆ => k h₆ fl₆ u₆
  | false =>
    rw [if_neg Bool.false_ne_true] at k ⊢
    exact k
/-- a bare raise: the exception that is handled goes on -/
theorem bareRaise (fl : Heap.FlyingW B l e (.type X) a0 s.heap) (hh : A.handled = some (.ref e)) (hf : env.frame = some L) (h : ∀ h', Heap.HeldW B l e (.type X) a0 L h' → s.heap.UpToSlots h' → E (.ref e) { s with heap := h' }) :
    wpAny (model prog w) A (exec (.Raise none none pos) env) Q E s := by
  rw [arm_exec_Raise]
  refine wpAny_bind (wpAny_standAt ?_)
  show wpAny _ _ (raiseStmt env none none) _ _ _
  unfold raiseStmt
  refine wpAny_bind (wpAny_handled ?_)
  rw [hh]
  obtain ⟨oe, vs, T, oT, ts, he, hcls, hd, h1, r⟩ := id fl.2.2.2
  refine wpAny_bind (wpAny_rule (wpAny_bind (wpAny_field he hd h1 ?_)))
  rw [if_neg (show ¬ ((Value.ref T == Value.none) = true) from by simp)]
  rw [hf]
  exact wpAny_bind (flightHere fl fun h' x u => wpAny_throw (h h' x u))
end
end Mine
end
section
open PySem PySem.W PyProof.Rows PySem.Calls
set_option linter.unusedVariables false
namespace Mine
set_option maxRecDepth 100000
set_option maxHeartbeats 4000000
/-- an iterator over a list or a tuple, at a place -/
def SIt (h : Heap) (T : String) (it l : Addr) (i : Nat) : Prop := ∃ o, h.get? it = some o ∧ o.cls = .type T ∧ o.data = .fields #[.ref l, .int i 0]
/-- a list's or a tuple's items -/
def SSq (h : Heap) (l : Addr) (items : Array Value) : Prop := ∃ o n, h.get? l = some o ∧ o.data = .seq items n
theorem SIt.keeps {h h' : Heap} {T : String} {it l : Addr} {i : Nat} (x : SIt h T it l i) (k : ∀ o, h.get? it = some o → h'.get? it = some o) : SIt h' T it l i := let ⟨o, ho, r⟩ := x; ⟨o, k o ho, r⟩
theorem SSq.keeps {h h' : Heap} {l : Addr} {items : Array Value} (x : SSq h l items) (k : ∀ o, h.get? l = some o → h'.get? l = some o) : SSq h' l items := let ⟨o, n, ho, r⟩ := x; ⟨o, n, k o ho, r⟩
theorem SIt.type {s : Shared} {T : String} {it l : Addr} {i : Nat} (x : SIt s.heap T it l i) : s.TypeIs (.ref it) T := let ⟨o, ho, hc, _⟩ := x; ⟨o, ho, hc⟩
theorem next_entry : entryFor table "next" = some Builtin.«next» := kdk_entry_next
theorem next_args (a : Value) : argsOk "next" ⟨[a], []⟩ := by unfold argsOk; kernel_rfl

section
variable {prog : Program} {w : World} {A : Around} {E : Value → Shared → Prop} {s : Shared} {T : String} {it l : Addr} {i : Nat} {items : Array Value}
theorem specialItem {x : Value} {Q : Option Value → Shared → Prop} (hT : T = "list_iterator" ∨ T = "tuple_iterator") (hit : SIt s.heap T it l i) (hl : SSq s.heap l items) (hx : items[i]? = some x)
    (hQ : ∀ h', SIt h' T it l (i + 1) → Heap.SameBut it s.heap h' → Q (some x) { s with heap := h' }) : wpAny (model prog w) A (callSpecial? (.ref it) (Str.ofString "__next__")) Q E s := by
  have ty := hit.type
  obtain ⟨o, ho, hc, hd⟩ := hit
  obtain ⟨ol, nl, hol, hdl⟩ := hl
  rcases hT with rfl | rfl
  · refine wpAny_callSpecial?_slot (name := Str.ofString "__next__") ty slot_listiter_next (wpAny_call_entry slot_listiter_next ty entry_listiter_next ?_ (args_listiter_next _))
    show wpAny _ _ (field (.ref it) 0 >>= _) _ _ s
    refine wpAny_bind (wpAny_field ho hd (x := .ref l) rfl ?_)
    show wpAny _ _ (if (Value.ref l == Value.none) = true then _ else _) _ _ s
    rw [if_neg (show ¬ ((Value.ref l == Value.none) = true) from Bool.false_ne_true)]
    show wpAny _ _ (field (.ref it) 1 >>= _) _ _ s
    refine wpAny_bind (wpAny_field ho hd (x := .int i 0) rfl ?_)
    show wpAny _ _ (seqItems? (.ref l) >>= _) _ _ s
    refine wpAny_bind (wpAny_seqItems hol hdl ?_)
    simp only [Int.toNat_natCast, hx]
    refine wpAny_bind (wpAny_setField ho hd (by simp) (wpAny_pure ⟨x, rfl, hQ _ ?_ (Heap.SameBut.update ..)⟩))
    exact ⟨_, Heap.get?_update_self _ ho (Obj.isFreed_of_fields (Obj.data_mapFields hd _)), (Obj.cls_mapFields ..).trans hc, by rw [Obj.data_mapFields hd]; simp [rawInt]⟩
  · refine wpAny_callSpecial?_slot (name := Str.ofString "__next__") ty F.slot_tuple_iterator_next (wpAny_call_entry F.slot_tuple_iterator_next ty F.entry_tuple_iterator_next ?_ (F.args_tuple_iterator_next_1 _))
    show wpAny _ _ (field (.ref it) 0 >>= _) _ _ s
    refine wpAny_bind (wpAny_field ho hd (x := .ref l) rfl ?_)
    show wpAny _ _ (if (Value.ref l == Value.none) = true then _ else _) _ _ s
    rw [if_neg (show ¬ ((Value.ref l == Value.none) = true) from Bool.false_ne_true)]
    show wpAny _ _ (field (.ref it) 1 >>= _) _ _ s
    refine wpAny_bind (wpAny_field ho hd (x := .int i 0) rfl ?_)
    show wpAny _ _ (seqItems? (.ref l) >>= _) _ _ s
    refine wpAny_bind (wpAny_seqItems hol hdl ?_)
    simp only [Int.toNat_natCast, hx]
    refine wpAny_bind (wpAny_setField ho hd (by simp) (wpAny_pure ⟨x, rfl, hQ _ ?_ (Heap.SameBut.update ..)⟩))
    exact ⟨_, Heap.get?_update_self _ ho (Obj.isFreed_of_fields (Obj.data_mapFields hd _)), (Obj.cls_mapFields ..).trans hc, by rw [Obj.data_mapFields hd]; simp [rawInt]⟩
theorem stopMade {α : Type} {Q : α → Shared → Prop} (hh : A.handled = none) (h : ∀ h' e, Heap.MadeExcOf s.heap h' e (.type "StopIteration") [] → E (.ref e) { s with heap := h' }) :
    wpAny (model prog w) A (newExc (.type "StopIteration") [] >>= fun e => raiseNew e) Q E s := by
  refine wpAny_bind ?_
  simp only [newExc, newTuple]
  refine wpAny_bind (wpAny_newObj_type ?_ (by size_fits))
  refine wpAny_bind (m := firstArgMember _ _) (wpAny_of_eq (a := Value.none) (by first | rfl | (simp only [firstArgMember]; rfl)) ?_)
  refine wpAny_newObj_type ?_ (by size_fits)
  refine wpAny_raiseNew_none hh (h _ _ ⟨fun b o hb => Heap.get?_push_of_some _ (Heap.get?_push_of_some _ hb), Heap.get?_none_of_le (by simp), s.heap.objs.size, ?_, Heap.get?_none_of_le (Nat.le_refl _), ?_⟩)
  · exact Heap.get?_push_size _ rfl
  · exact Heap.get?_push_of_some _ (Heap.get?_push_size _ rfl)
theorem specialEnd {Q : Option Value → Shared → Prop} (hh : A.handled = none) (hT : T = "list_iterator" ∨ T = "tuple_iterator") (hit : SIt s.heap T it l i) (hl : SSq s.heap l items) (hx : items[i]? = none)
    (hE : ∀ h₁ h' e, Heap.SameBut it s.heap h₁ → (∃ o vs, h₁.get? it = some o ∧ o.data = .fields vs) → Heap.MadeExcOf h₁ h' e (.type "StopIteration") [] → E (.ref e) { s with heap := h' }) : wpAny (model prog w) A (callSpecial? (.ref it) (Str.ofString "__next__")) Q E s := by
  have ty := hit.type
  obtain ⟨o, ho, hc, hd⟩ := hit
  obtain ⟨ol, nl, hol, hdl⟩ := hl
  rcases hT with rfl | rfl
  · refine wpAny_callSpecial?_slot (name := Str.ofString "__next__") ty slot_listiter_next (wpAny_call_entry slot_listiter_next ty entry_listiter_next ?_ (args_listiter_next _))
    show wpAny _ _ (field (.ref it) 0 >>= _) _ _ s
    refine wpAny_bind (wpAny_field ho hd (x := .ref l) rfl ?_)
    show wpAny _ _ (if (Value.ref l == Value.none) = true then _ else _) _ _ s
    rw [if_neg (show ¬ ((Value.ref l == Value.none) = true) from Bool.false_ne_true)]
    show wpAny _ _ (field (.ref it) 1 >>= _) _ _ s
    refine wpAny_bind (wpAny_field ho hd (x := .int i 0) rfl ?_)
    show wpAny _ _ (seqItems? (.ref l) >>= _) _ _ s
    refine wpAny_bind (wpAny_seqItems hol hdl ?_)
    simp only [Int.toNat_natCast, hx]
    refine wpAny_bind (wpAny_rule (wpAny_bind (wpAny_setField ho hd (by simp) ?_)))
    refine stopMade (A := A.in1) (by exact hh) ?_
    intro h' e hm
    exact hE _ h' e (Heap.SameBut.update s.heap it (Obj.mapFields (·.setIfInBounds 0 .none))) ⟨_, _, Heap.get?_update_self _ ho (Obj.isFreed_of_fields (Obj.data_mapFields hd _)), Obj.data_mapFields hd _⟩ hm
  · refine wpAny_callSpecial?_slot (name := Str.ofString "__next__") ty F.slot_tuple_iterator_next (wpAny_call_entry F.slot_tuple_iterator_next ty F.entry_tuple_iterator_next ?_ (F.args_tuple_iterator_next_1 _))
    show wpAny _ _ (field (.ref it) 0 >>= _) _ _ s
    refine wpAny_bind (wpAny_field ho hd (x := .ref l) rfl ?_)
    show wpAny _ _ (if (Value.ref l == Value.none) = true then _ else _) _ _ s
    rw [if_neg (show ¬ ((Value.ref l == Value.none) = true) from Bool.false_ne_true)]
    show wpAny _ _ (field (.ref it) 1 >>= _) _ _ s
    refine wpAny_bind (wpAny_field ho hd (x := .int i 0) rfl ?_)
    show wpAny _ _ (seqItems? (.ref l) >>= _) _ _ s
    refine wpAny_bind (wpAny_seqItems hol hdl ?_)
    simp only [Int.toNat_natCast, hx]
    refine wpAny_bind (wpAny_rule (wpAny_bind (wpAny_setField ho hd (by simp) ?_)))
    refine stopMade (A := A.in1) (by exact hh) ?_
    intro h' e hm
    exact hE _ h' e (Heap.SameBut.update s.heap it (Obj.mapFields (·.setIfInBounds 0 .none))) ⟨_, _, Heap.get?_update_self _ ho (Obj.isFreed_of_fields (Obj.data_mapFields hd _)), Obj.data_mapFields hd _⟩ hm
theorem nextLookup (hT : T = "list_iterator" ∨ T = "tuple_iterator") : ∃ v, typeLookup (.type T) (Str.ofString "__next__") = pure (some v) := by
  rcases hT with rfl | rfl
  · exact ⟨_, slot_listiter_next.lookup⟩
  · exact ⟨_, F.slot_tuple_iterator_next.lookup⟩
theorem nextCall {Q : Value → Shared → Prop} (hT : T = "list_iterator" ∨ T = "tuple_iterator") (hit : SIt s.heap T it l i)
    (h : wpAny (model prog w) A.in1 (callSpecial? (.ref it) (Str.ofString "__next__")) (fun r s' => ∃ v, r = some v ∧ Q v s') E s) : wpAny (model prog w) A (call (.builtin "next") [.ref it]) Q E s := by
  refine call_function_entry (by decide +kernel) (by decide +kernel) next_entry (next_args _) ?_
  unfold Builtin.«next»
  refine wpAny_bind (m := someArgs "next" 1 2 _) (wpAny_of_eq (a := [Value.ref it]) (by first | rfl | kernel_rfl!) ?_)
  dsimp only
  obtain ⟨v, hv⟩ := nextLookup hT
  refine wpAny_bind (wpAny_specialOf (name := Str.ofString "__next__") hit.type hv ?_)
  refine wpAny_ite_split (fun hab => absurd hab (by simp)) (fun _ => ?_)
  refine wpAny_bind (wpAny_mono h (fun r s' hr => ?_) fun _ _ z => z)
  obtain ⟨x, rfl, hx⟩ := hr
  exact wpAny_pure ⟨_, rfl, hx⟩
theorem nextItem {x : Value} {Q : Value → Shared → Prop} (hT : T = "list_iterator" ∨ T = "tuple_iterator") (hit : SIt s.heap T it l i) (hl : SSq s.heap l items) (hx : items[i]? = some x)
    (hQ : ∀ h', SIt h' T it l (i + 1) → Heap.SameBut it s.heap h' → Q x { s with heap := h' }) : wpAny (model prog w) A (call (.builtin "next") [.ref it]) Q E s :=
  nextCall hT hit (specialItem hT hit hl hx fun h' a b => ⟨_, rfl, hQ h' a b⟩)
theorem nextEnd {Q : Value → Shared → Prop} (hh : A.handled = none) (hT : T = "list_iterator" ∨ T = "tuple_iterator") (hit : SIt s.heap T it l i) (hl : SSq s.heap l items) (hx : items[i]? = none)
    (hE : ∀ h₁ h' e, Heap.SameBut it s.heap h₁ → (∃ o vs, h₁.get? it = some o ∧ o.data = .fields vs) → Heap.MadeExcOf h₁ h' e (.type "StopIteration") [] → E (.ref e) { s with heap := h' }) : wpAny (model prog w) A (call (.builtin "next") [.ref it]) Q E s :=
  nextCall hT hit (specialEnd (by exact hh) hT hit hl hx hE)
end
end Mine
end
section
open PySem PySem.W PyProof.Rows PySem.Calls
set_option linter.unusedVariables false
namespace Mine
set_option maxRecDepth 100000
set_option maxHeartbeats 4000000
local macro_rules | `(tactic| walk_at "eval Name") => `(tactic| (with_unfolding_all refine' ldL ?F ?v ?_ ?k ?l ?d; (case F => assumption); (case k => rfl); (case l => rfl); (case d => rfl); (case v => first | assumption | rfl)))
local macro_rules | `(tactic| walk_at "eval Name") => `(tactic| (with_unfolding_all refine' ldG ?T ?F ?e ?_ ?k ?g ?x ?d; (case T => assumption); (case F => assumption); (case k => rfl); (case g => rfl); (case x => rfl); (case d => rfl); (case e => rfl)))
local macro_rules | `(tactic| walk_at "eval Name") => `(tactic| (with_unfolding_all refine' ldB ?T ?F ?e ?v ?n ?_ ?k ?g ?b ?x ?d; (case T => assumption); (case F => assumption); (case k => rfl); (case g => rfl); (case b => rfl); (case x => rfl); (case d => rfl); (case e => rfl); (case v => boot_fast); (case n => decide)))
local macro_rules | `(tactic| walk_at "storeName") => `(tactic| (with_unfolding_all refine' stL ?F ?_ ?k ?l; (case F => assumption); (case k => rfl); (case l => rfl); intro h' F'))
local macro_rules | `(tactic| walk_at "callWith ref") => `(tactic| (with_unfolding_all refine' callWith_K (K := KK _) ?X ?k ?_; (case X => exact (Txt.k (by assumption))); (case k => rfl)))
local macro_rules | `(tactic| walk_at "callWith ref") => `(tactic| (with_unfolding_all refine' callWith_K0 (K := KK _) ?X ?k ?_; (case X => exact (Txt.keeps (by assumption) (Loc.st (by assumption))).k); (case k => rfl)))
local macro_rules | `(tactic| walk_at "And") => `(tactic| (refine ⟨(Txt.keeps (by assumption) (Loc.st (by assumption))).k, ?_⟩))
local macro_rules | `(tactic| walk_at "assign Tuple") => `(tactic| (refine' unpackL ?F ?hh ?ht ?hc ?hd ?hn ?hs ?_; (case F => assumption); (case hh => assumption); (case ht => assumption); (case hc => rfl); (case hd => rfl); (case hn => rfl); (case hs => rfl); intro h' F' k'))
local macro_rules | `(tactic| walk_at "tree") => `(tactic| first | (with_reducible show wpAny _ _ _ _ _ _) | (with_reducible show (if _ then _ else _)) | (with_reducible show Frag.In _ _ ∧ _))
local macro_rules | `(tactic| walk_at "mw") => `(tactic| repeat' (first | (walk_at "tree"; walk1) | (dsimp only; walk_at "tree"; walk1)))
local macro_rules | `(tactic| walk_at "newTuple") => `(tactic| (refine newTupleL (by assumption) (fun h' a' F' ka na Na oa => ?_)))
local macro_rules | `(tactic| walk_at "exec Try") => `(tactic| (refine wpAny_Try_except ?_))
theorem Loc.but {H h h' : Heap} {L a : Addr} {m : Str → Option Value} (F : Loc H L h m) (hs : Heap.SameBut a h h') (ha : a ≠ L) : Loc (H.hide a) L h' m :=
  ⟨F.ns.at' fun o e => (hs.2 L ha.symm).trans e, fun b o e => (hs.2 b (ne_of_get e (Heap.hide_self ..))).trans (F.st b o (Heap.of_hide e)), (F.less a).nl⟩
section
variable {prog : Program} {w : World} {A : Around} {s : Shared} {mg mb : Str → Option Value} {R : Result → Shared → Prop} {T : String} {it l : Addr} {i : Nat} {items : Array Value}
theorem pull_item {x : Value} (Tx : Txt w mg mb s.heap) (hh : A.handled = none) (hroom : A.depth + 2 < recursionLimit)
    (hT : T = "list_iterator" ∨ T = "tuple_iterator") (hit : SIt s.heap T it l i) (hl : SSq s.heap l items) (hx : items[i]? = some x)
    (h : ∀ h' a tk', (∀ b o, b ≠ it → s.heap.get? b = some o → h'.get? b = some o) → SIt h' T it l (i + 1) → s.heap.get? a = none → h'.get? a = some { cls := .type "tuple", data := .seq [.bool true, x].toArray } → R (.ok (.ret (.ref a))) { s with heap := h', toks := tk' }) :
    codeAny (model prog w) A (.call (.ref 35) ⟨[.ref it], []⟩) R s := by
  refine enterP (binds := [(Str.ofString "it", .ref it)]) Tx (by omega) rfl rfl rfl rfl rfl (by decide) rfl rfl rfl rfl fun h₀ F => ?_
  try dsimp only
  have hitL : it ≠ s.heap.objs.size := by obtain ⟨o, ho, _⟩ := hit; exact ne_of_get ho (Heap.get?_none_of_le (Nat.le_refl _))
  have hit₀ := hit.keeps (F.st _)
  have hl₀ := hl.keeps (F.st _)
  walk_at "mw"
  refine nextItem hT hit₀ hl₀ hx fun h₁ hit₁ hs₁ => ?_
  have F₁ := F.but hs₁ hitL
  have hno : ∀ a, h₁.get? a = none → s.heap.get? a = none := fun a ha => by
    by_cases q : a = it
    · obtain ⟨o, ho, _⟩ := hit₁; rw [q, ho] at ha; cases ha
    · cases e : s.heap.get? a with
      | none => rfl
      | some o => have := (hs₁.2 a q).trans (F.st _ _ e); rw [ha] at this; cases this
  clear F
  walk_at "mw"
  rename_i h₂ a F₂ k₂ n₂ N₂ o₂
  exact h _ a _ (fun b o q e => F₂.st b o ((Heap.hide_ne _ q).trans e)) (hit₁.keeps fun o e => k₂ _ _ e) (hno a n₂) o₂
theorem pull_end {B : Heap} {fl : List Env} (Tx : Txt w mg mb B) (K : Blw A B fl s.heap) (hh : A.handled = none) (hroom : A.depth + 2 < recursionLimit)
    (hT : T = "list_iterator" ∨ T = "tuple_iterator") (hit : SIt s.heap T it l i) (hB : B.get? it = none) (hfl : it ∉ fsOf fl) (hl : SSq s.heap l items) (hx : items[i]? = none)
    (h : ∀ h' a tk', B.StaysIn h' → Slt (fsOf fl) s.heap h' → B.get? a = none → a ∉ fsOf fl → h'.get? a = some { cls := .type "tuple", data := .seq [.bool false, .none].toArray } → R (.ok (.ret (.ref a))) { s with heap := h', toks := tk' }) :
    codeAny (model prog w) A (.call (.ref 35) ⟨[.ref it], []⟩) R s := by
  refine enterP (binds := [(Str.ofString "it", .ref it)]) (Tx.keeps K.stays) (by omega) rfl rfl rfl rfl rfl (by decide) rfl rfl rfl rfl fun h₀ F => ?_
  try dsimp only
  have hitL : it ≠ s.heap.objs.size := by obtain ⟨o, ho, _⟩ := hit; exact ne_of_get ho (Heap.get?_none_of_le (Nat.le_refl _))
  have hit₀ := hit.keeps (F.st _)
  have hl₀ := hl.keeps (F.st _)
  have Ts := Tx.keeps K.stays
  walk_at "mw"
  refine nextEnd hh hT hit₀ hl₀ hx fun h₁ h₂ e hs₁ _ hm => ?_
  have F₁ := F.but hs₁ hitL
  have hBL : B.get? s.heap.objs.size = none := Heap.StaysIn.fresh K.stays
  have st₁ : B.StaysIn h₁ := fun b o q => F₁.st b o ((Heap.hide_ne _ (ne_of_get q hB)).trans (K.stays b o q))
  have sl₁ : Slt (fsOf fl) s.heap h₁ := Slt.of_keeps fun b o hb q => F₁.st b o ((Heap.hide_ne _ fun (z : b = it) => hfl (z ▸ hb)).trans q)
  refine noteNew ((K.move sl₁ st₁).inn F₁.ns hBL rfl (fun q => by cases q) (Around.frames_deeper K.stack)) rfl hm fun h₃ a0 held u₃ => ?_
  refine wpAny_landsW held fun h₄ fl₄ u₄ => ?_
  have K₁ := K.move sl₁ st₁
  have u₂ : h₁.UpToSlots h₄ := ((Heap.UpToSlots.of_keeps hm.keeps).trans u₃).trans u₄
  have ns₄ := u₂.ns F₁.ns
  refine handleK (b := true) (T' := "StopIteration") Tx ns₄ hBL fl₄ rfl (by kernel_rfl) (by decide) rfl rfl rfl rfl rfl rfl (by rw [isSubtype_type]; kernel_rfl) (by kernel_rfl) (by rw [isSubtype_type]; kernel_rfl) ?_
  rw [if_pos rfl]
  intro h₅ fl₅ u₅
  refine wpAny_noRaise ?_
  have F₅ : Loc B s.heap.objs.size h₅ _ := ⟨u₅.ns ns₄, fl₅.1, hBL⟩
  clear F F₁
  walk_at "mw"
  rename_i h₆ a F₆ k₆ n₆ N₆ o₆
  have sl₅ : Slt (fsOf fl) s.heap h₅ := sl₁.trans ((K₁.slt u₂).trans ((K₁.move (K₁.slt u₂) fl₄.1).slt u₅))
  exact h _ a _ F₆.st (sl₅.trans (Slt.of_keeps fun b o _ e => k₆ b o e)) N₆ (fun ha => by
    obtain ⟨o, ho, _⟩ := K.there ha
    obtain ⟨_, q⟩ := sl₅ a ha o ho
    rw [n₆] at q; cases q) o₆
end
end Mine
end
section
open PySem PySem.W PyProof.Rows PySem.Calls
set_option linter.unusedVariables false
namespace Mine
set_option maxRecDepth 100000
set_option maxHeartbeats 4000000
local macro_rules | `(tactic| walk_at "eval Name") => `(tactic| (with_unfolding_all refine' ldL ?F ?v ?_ ?k ?l ?d; (case F => assumption); (case k => rfl); (case l => rfl); (case d => rfl); (case v => first | assumption | rfl)))
local macro_rules | `(tactic| walk_at "eval Name") => `(tactic| (with_unfolding_all refine' ldG ?T ?F ?e ?_ ?k ?g ?x ?d; (case T => assumption); (case F => assumption); (case k => rfl); (case g => rfl); (case x => rfl); (case d => rfl); (case e => rfl)))
local macro_rules | `(tactic| walk_at "eval Name") => `(tactic| (with_unfolding_all refine' ldB ?T ?F ?e ?v ?n ?_ ?k ?g ?b ?x ?d; (case T => assumption); (case F => assumption); (case k => rfl); (case g => rfl); (case b => rfl); (case x => rfl); (case d => rfl); (case e => rfl); (case v => boot_fast); (case n => decide)))
local macro_rules | `(tactic| walk_at "storeName") => `(tactic| (with_unfolding_all refine' stL ?F ?_ ?k ?l; (case F => assumption); (case k => rfl); (case l => rfl); intro h' F'))
local macro_rules | `(tactic| walk_at "callWith ref") => `(tactic| (with_unfolding_all refine' callWith_K (K := KK _) ?X ?k ?_; (case X => exact (Txt.k (by assumption))); (case k => rfl)))
local macro_rules | `(tactic| walk_at "callWith ref") => `(tactic| (with_unfolding_all refine' callWith_K0 (K := KK _) ?X ?k ?_; (case X => exact (Txt.keeps (by assumption) (Loc.st (by assumption))).k); (case k => rfl)))
local macro_rules | `(tactic| walk_at "And") => `(tactic| (refine ⟨(Txt.keeps (by assumption) (Loc.st (by assumption))).k, ?_⟩))
local macro_rules | `(tactic| walk_at "assign Tuple") => `(tactic| (refine' unpackL ?F ?hh ?ht ?hc ?hd ?hn ?hs ?_; (case F => assumption); (case hh => assumption); (case ht => assumption); (case hc => rfl); (case hd => rfl); (case hn => rfl); (case hs => rfl); intro h' F' k'))
local macro_rules | `(tactic| walk_at "tree") => `(tactic| first | (with_reducible show wpAny _ _ _ _ _ _) | (with_reducible show (if _ then _ else _)) | (with_reducible show Frag.In _ _ ∧ _))
local macro_rules | `(tactic| walk_at "mw") => `(tactic| repeat' (first | (walk_at "tree"; walk1) | (dsimp only; walk_at "tree"; walk1)))
local macro_rules | `(tactic| walk_at "newTuple") => `(tactic| (refine newTupleL (by assumption) (fun h' a' F' ka na Na oa => ?_)))
local macro_rules | `(tactic| walk_at "exec Try") => `(tactic| (refine wpAny_Try_except ?_))
/-- a chain as an object: what it draws from the source a, what it draws from at the moment b -/
theorem chainInst {h : Heap} {C dx : Addr} {sl : Array (Option Value)} (hC : h.get? C = some { instObj 78 dx with slots := sl }) (hd : h.get? dx = some emptyDict) : InstAt h C { instObj 78 dx with slots := sl } 78 (some emptyDict) :=
  ⟨hC, rfl, rfl, hd⟩
abbrev chainObj (dx : Addr) (a b : Option Value) : Obj := { instObj 78 dx with slots := #[b, a] }
/-- a slot is set -/
def putSlot (i : Nat) (v : Value) (o : Obj) : Obj := { o with slots := (o.slots ++ Array.replicate (i + 1 - o.slots.size) none).setIfInBounds i (some v) }
section
variable {prog : Program} {w : World} {A : Around} {E : Value → Shared → Prop} {s : Shared} {C dx : Addr} {sl : Array (Option Value)} {v : Value} {R : Result → Shared → Prop}
theorem getSource {expr : Bool} {Q : Value → Shared → Prop} (X : (KK w).In s.heap) (hC : s.heap.get? C = some { instObj 78 dx with slots := sl }) (hd : s.heap.get? dx = some emptyDict) (hv : (sl[1]?).join = some v) (hh : handedIn v = true)
    (h : Q v { s with toks := s.toks + 1 }) : wpAny (model prog w) A (getAttr (.ref C) (Str.ofString "_source") expr) Q E s :=
  get_bind X (chainInst hC hd) (plainGet_of (by with_unfolding_all rfl : plainGet (KK w) 78 (Str.ofString "_source") = true)).1 (findObj_data (a := .ref 80) rfl rfl rfl rfl) (plainGet_of (by with_unfolding_all rfl : plainGet (KK w) 78 (Str.ofString "_source") = true)).2
    (wpAny_call (slot_get (s := { s with toks := s.toks + 1 }) (p := 80) (i := 1) X (chainInst hC hd) rfl hv (handed_on hh h)))
theorem getActive {expr : Bool} {Q : Value → Shared → Prop} (X : (KK w).In s.heap) (hC : s.heap.get? C = some { instObj 78 dx with slots := sl }) (hd : s.heap.get? dx = some emptyDict) (hv : (sl[0]?).join = some v) (hh : handedIn v = true)
    (h : Q v { s with toks := s.toks + 1 }) : wpAny (model prog w) A (getAttr (.ref C) (Str.ofString "_active") expr) Q E s :=
  get_bind X (chainInst hC hd) (plainGet_of (by with_unfolding_all rfl : plainGet (KK w) 78 (Str.ofString "_active") = true)).1 (findObj_data (a := .ref 79) rfl rfl rfl rfl) (plainGet_of (by with_unfolding_all rfl : plainGet (KK w) 78 (Str.ofString "_active") = true)).2
    (wpAny_call (slot_get (s := { s with toks := s.toks + 1 }) (p := 79) (i := 0) X (chainInst hC hd) rfl hv (handed_on hh h)))
open Builtin Builtin.ObjectAttr Builtin.Getset_descriptor in
theorem slotPut {p i : Nat} (X : (KK w).In s.heap) (hC : s.heap.get? C = some { instObj 78 dx with slots := sl }) (hd : s.heap.get? dx = some emptyDict) (hp : slotIn (KK w) p 78 = some i) (hi : i < 1000)
    (h : R (.ok (.ret .none)) { s with heap := s.heap.update C (putSlot i v) }) : codeAny (model prog w) A (.call (.builtin "member_descriptor.__set__") ⟨[.ref p, .ref C, v], []⟩) R s := by
  have I := chainInst hC hd
  obtain ⟨n, tn, owner, behind, tb, d, sl', cd, ho, hc, hm, hb, rfl⟩ := slot_of X hp
  obtain ⟨hh, g, dr, t, os⟩ := s
  have L0 := I.type (M := model prog w)
  have L1 := looks_mroIn (M := model prog w) X hm
  have L2 : Looks (model prog w) hh (Slots.slotNamesOf (.ref 78)) cd.slotNames := (looks_clsIn X hc).andThen .now
  have hx := I.at_
  dsimp only at ho hx L0 L1
  have f0 := looks_field (M := model prog w) ho 0 (v := .str n tn) rfl
  have f1 := looks_field (M := model prog w) ho 1 (v := owner) rfl
  have f3 := looks_field (M := model prog w) ho 3 (v := .builtin "proto.slot#set") rfl
  have f4 := looks_field (M := model prog w) ho 4 (v := .int behind tb) rfl
  refine codeAny_call_builtin KF.slot_mset.plain KF.entry_mset (KF.slot_mset.check _ _ _ _ _ _ _ _ ⟨_, ho, rfl⟩ (KF.args_mset _ _ _) ?_)
  unfold Builtin.«member_descriptor.__set__» descrSet descrStoreThrough descrCheckInstance descrNameAndClass isInstance
  have f5 : Looks (model prog w) hh (descrItself (.ref p)) [.ref p] := ((Looks.ld (part := none) ho).andThen .now).andThen (Looks.of_pure (by kernel_rfl))
  repeat lk
  refine ⟨Code.quiet_builtin _ (by decide +kernel), codeAny_builtin KF.entry_slotset ?_⟩
  unfold Builtin.«proto.slot#set» Slots.target
  repeat lk
  rw [if_neg hb]
  refine wpAny_pure (wpAny_bind ?_)
  unfold setSlotAt
  dsimp only
  rw [if_neg (by rw [sizeLine_eq]; omega)]
  exact wpAny_updatePart hx (wpAny_pure h)
theorem setSource {Q : Unit → Shared → Prop} (X : (KK w).In s.heap) (hC : s.heap.get? C = some { instObj 78 dx with slots := sl }) (hd : s.heap.get? dx = some emptyDict)
    (h : Q () { s with heap := s.heap.update C (putSlot 1 v), toks := s.toks + 1 }) : wpAny (model prog w) A (setAttr (.ref C) (Str.ofString "_source") v) Q E s :=
  set_plain X (chainInst hC hd) rfl (osa_descr (s := { s with toks := s.toks + 1 }) KF.slot_mset X (chainInst hC hd) rfl (p := 80) rfl rfl (slotPut (s := { s with toks := s.toks + 1 }) X hC hd rfl (by decide) h))
theorem setActive {Q : Unit → Shared → Prop} (X : (KK w).In s.heap) (hC : s.heap.get? C = some { instObj 78 dx with slots := sl }) (hd : s.heap.get? dx = some emptyDict)
    (h : Q () { s with heap := s.heap.update C (putSlot 0 v), toks := s.toks + 1 }) : wpAny (model prog w) A (setAttr (.ref C) (Str.ofString "_active") v) Q E s :=
  set_plain X (chainInst hC hd) rfl (osa_descr (s := { s with toks := s.toks + 1 }) KF.slot_mset X (chainInst hC hd) rfl (p := 79) rfl rfl (slotPut (s := { s with toks := s.toks + 1 }) X hC hd rfl (by decide) h))
end
theorem get_putSlot {h : Heap} {C dx : Addr} {sl : Array (Option Value)} {i : Nat} {v : Value} (hC : h.get? C = some { instObj 78 dx with slots := sl }) :
    (h.update C (putSlot i v)).get? C = some { instObj 78 dx with slots := (sl ++ Array.replicate (i + 1 - sl.size) none).setIfInBounds i (some v) } := Heap.get?_update_self (putSlot i v) hC rfl
end Mine
end
section
open PySem PySem.W PyProof.Rows PySem.Calls
set_option linter.unusedVariables false
namespace Mine
set_option maxRecDepth 100000
set_option maxHeartbeats 4000000
local macro_rules | `(tactic| walk_at "eval Name") => `(tactic| (with_unfolding_all refine' ldL ?F ?v ?_ ?k ?l ?d; (case F => assumption); (case k => rfl); (case l => rfl); (case d => rfl); (case v => first | assumption | rfl)))
local macro_rules | `(tactic| walk_at "eval Name") => `(tactic| (with_unfolding_all refine' ldG ?T ?F ?e ?_ ?k ?g ?x ?d; (case T => assumption); (case F => assumption); (case k => rfl); (case g => rfl); (case x => rfl); (case d => rfl); (case e => rfl)))
local macro_rules | `(tactic| walk_at "eval Name") => `(tactic| (with_unfolding_all refine' ldB ?T ?F ?e ?v ?n ?_ ?k ?g ?b ?x ?d; (case T => assumption); (case F => assumption); (case k => rfl); (case g => rfl); (case b => rfl); (case x => rfl); (case d => rfl); (case e => rfl); (case v => boot_fast); (case n => decide)))
local macro_rules | `(tactic| walk_at "storeName") => `(tactic| (with_unfolding_all refine' stL ?F ?_ ?k ?l; (case F => assumption); (case k => rfl); (case l => rfl); intro h' F'))
local macro_rules | `(tactic| walk_at "callWith ref") => `(tactic| (with_unfolding_all refine' callWith_K (K := KK _) ?X ?k ?_; (case X => exact (Txt.k (by assumption))); (case k => rfl)))
local macro_rules | `(tactic| walk_at "callWith ref") => `(tactic| (with_unfolding_all refine' callWith_K0 (K := KK _) ?X ?k ?_; (case X => exact (Txt.keeps (by assumption) (Loc.st (by assumption))).k); (case k => rfl)))
local macro_rules | `(tactic| walk_at "And") => `(tactic| (refine ⟨(Txt.keeps (by assumption) (Loc.st (by assumption))).k, ?_⟩))
local macro_rules | `(tactic| walk_at "assign Tuple") => `(tactic| (refine' unpackL ?F ?hh ?ht ?hc ?hd ?hn ?hs ?_; (case F => assumption); (case hh => assumption); (case ht => assumption); (case hc => rfl); (case hd => rfl); (case hn => rfl); (case hs => rfl); intro h' F' k'))
local macro_rules | `(tactic| walk_at "tree") => `(tactic| first | (with_reducible show wpAny _ _ _ _ _ _) | (with_reducible show (if _ then _ else _)) | (with_reducible show Frag.In _ _ ∧ _))
local macro_rules | `(tactic| walk_at "mw") => `(tactic| repeat' (first | (walk_at "tree"; walk1) | (dsimp only; walk_at "tree"; walk1)))
local macro_rules | `(tactic| walk_at "newTuple") => `(tactic| (refine newTupleL (by assumption) (fun h' a' F' ka na Na oa => ?_)))
local macro_rules | `(tactic| walk_at "exec Try") => `(tactic| (refine wpAny_Try_except ?_))
local macro_rules | `(tactic| walk_at "exec Assign") => `(tactic| (with_reducible refine plainObj_wpAny_Assign_Attribute ?_ ?_; rotate_left; with_unfolding_all rfl))
theorem iter_entry : entryFor table "iter" = some Builtin.«iter» := kdk_entry_iter
theorem iter_args (a : Value) : argsOk "iter" ⟨[a], []⟩ := by unfold argsOk; kernel_rfl
theorem iterCall {prog : Program} {w : World} {A : Around} {E : Value → Shared → Prop} {s : Shared} {x : Value} {Q : Value → Shared → Prop} (h : wpAny (model prog w) A.in1 (pyIter x) Q E s) : wpAny (model prog w) A (call (.builtin "iter") [x]) Q E s := by
  refine call_function_entry (by decide +kernel) (by decide +kernel) iter_entry (iter_args _) ?_
  unfold Builtin.«iter»
  refine wpAny_bind (m := someArgs "iter" 1 2 _) (wpAny_of_eq (a := [x]) (by first | rfl | kernel_rfl!) ?_)
  dsimp only
  exact wpAny_bind (wpAny_mono h (fun v s' hv => wpAny_pure ⟨_, rfl, hv⟩) fun _ _ z => z)
theorem Loc.over {H h h' : Heap} {L a : Addr} {m : Str → Option Value} (F : Loc H L h m) (hs : Heap.SameBut a h h') (ha : a ≠ L) : Loc (h'.hide L) L h' m :=
  ⟨F.ns.at' fun o e => (hs.2 L ha.symm).trans e, fun b o e => Heap.of_hide e, Heap.hide_self ..⟩
theorem iterTupL {prog : Program} {w : World} {A : Around} {E : Value → Shared → Prop} {s : Shared} {H : Heap} {L : Addr} {m : Str → Option Value} {Q : Value → Shared → Prop} {l : Addr} {items : Array Value} (F : Loc H L s.heap m) (hl : s.heap.IsTuple l items)
    (h : ∀ h' I, Loc H L h' m → s.heap.StaysIn h' → s.heap.get? I = none → h'.get? I = some { cls := .type "tuple_iterator", data := .fields #[.ref l, .int 0 0] } → Q (.ref I) { s with heap := h' }) :
    wpAny (model prog w) A (pyIter (.ref l)) Q E s :=
  wpAny_pyIter_tuple hl (h _ _ (F.push _) (fun _ _ e => Heap.get?_push_of_some _ e) (Heap.get?_none_of_le (Nat.le_refl _)) (Heap.get?_push_size _ rfl))
theorem chain_make {prog : Program} {w : World} {A : Around} {s : Shared} {mg mb : Str → Option Value} {R : Result → Shared → Prop} {l1 l2 : Addr}
    (T : Txt w mg mb s.heap) (hh : A.handled = none) (hroom : A.depth + 4 < recursionLimit)
    (h : ∀ h' C dx t S tk, s.heap.StaysIn h' → s.heap.get? C = none → s.heap.get? dx = none → s.heap.get? t = none → s.heap.get? S = none → dx ≠ C → t ≠ C → S ≠ C → dx ≠ S → t ≠ S →
      h'.get? C = some (chainObj dx (some (.ref S)) (some .none)) → h'.get? dx = some emptyDict → h'.get? t = some { cls := .type "tuple", data := .seq #[.ref l1, .ref l2] } → SIt h' "tuple_iterator" S t 0 → R (.ok (.ret (.ref C))) { s with heap := h', toks := tk }) :
    codeAny (model prog w) A (.call (.ref 78) ⟨[.ref l1, .ref l2], []⟩) R s := by
  obtain ⟨hp, g, d, tk₀, os⟩ := s
  refine make_core (makes_of T.k rfl) (looks_findIn T.k (rfl : findIn (KK w) (.ref 78) "__init__" = some (some (.ref 50)))) (fun self => bind_fn T.k self rfl) (.inl rfl) ?_
  have k₁ : hp.StaysIn ((hp.push emptyDict).push (instObj 78 hp.objs.size)) := fun b o e => Heap.get?_push_of_some _ (Heap.get?_push_of_some _ e)
  have oC : ((hp.push emptyDict).push (instObj 78 hp.objs.size)).get? (hp.objs.size + 1) = some (instObj 78 hp.objs.size) := by heap_get
  have oD : ((hp.push emptyDict).push (instObj 78 hp.objs.size)).get? hp.objs.size = some emptyDict := by heap_get
  have nC : hp.get? (hp.objs.size + 1) = none := Heap.get?_none_of_le (Nat.le_succ _)
  have nD : hp.get? hp.objs.size = none := Heap.get?_none_of_le (Nat.le_refl _)
  have dC : hp.objs.size ≠ hp.objs.size + 1 := Nat.ne_of_lt (Nat.lt_succ_self _)
  generalize ((hp.push emptyDict).push (instObj 78 hp.objs.size)) = h₁ at k₁ oC oD ⊢
  generalize hp.objs.size + 1 = C at oC nC dC ⊢
  generalize hp.objs.size = dx at oC oD nD dC ⊢
  have T₁ := T.keeps k₁
  refine codeAny_call_function (o := _) (fd := _) (body := _) (by show A.depth + 1 < _; omega) (T₁.k 50 _ rfl) rfl rfl rfl rfl (codeRec_of T₁.k rfl) ?_
  show wpAny _ _ (newTuple [.ref l1, .ref l2] >>= fun t => pure [(Str.ofString "self", Value.ref C), (Str.ofString "iterables", t)]) _ _ _
  refine wpAny_bind (wpAny_newObj_type (wpAny_pure ?_) (by size_fits))
  have k₂ : h₁.StaysIn (h₁.push { cls := .type "tuple", data := .seq ([.ref l1, .ref l2] : List Value).toArray }) := fun b o e => Heap.get?_push_of_some _ e
  have ot : (h₁.push { cls := .type "tuple", data := .seq ([.ref l1, .ref l2] : List Value).toArray }).get? h₁.objs.size = some { cls := .type "tuple", data := .seq #[.ref l1, .ref l2] } := Heap.get?_push_size _ rfl
  have nt : h₁.get? h₁.objs.size = none := Heap.get?_none_of_le (Nat.le_refl _)
  dsimp only
  generalize (h₁.push { cls := .type "tuple", data := .seq ([.ref l1, .ref l2] : List Value).toArray }) = h₂ at k₂ ot ⊢
  generalize h₁.objs.size = t at ot nt ⊢
  have T₂ := T₁.keeps k₂
  refine wpAny_newFunctionEnv (by decide) (locs rfl) (fun h₃ hns hsb => ⟨T₂.t.nolimit.fresh _ hsb, codeAny_func ?_⟩) rfl
  have k₃ : h₂.StaysIn h₃ := fun b o e => hsb.extBut b o (Nat.ne_of_lt (Heap.lt_size e)) (Heap.get?_push_of_some _ e)
  have F : Loc h₂ h₂.objs.size h₃ _ := ⟨hns, k₃, Heap.get?_none_of_le (Nat.le_refl _)⟩
  dsimp only
  walk_at "mw"
  
  refine iterCall (iterTupL F ⟨_, F.st _ _ ot, rfl, _, rfl⟩ fun h₄ S F₄ k₄ nS oS => ?_)
  have Ck := k₂ _ _ oC
  have Dk := k₂ _ _ oD
  have CL : C ≠ h₂.objs.size := ne_of_get Ck (Heap.get?_none_of_le (Nat.le_refl _))
  clear F
  walk_at "mw"
  refine setSource (T₂.keeps F₄.st).k (F₄.st _ _ Ck) (F₄.st _ _ Dk) ?_
  have hs₅ := Heap.SameBut.update h₄ C (putSlot 1 (.ref S))
  have oC₅ := get_putSlot (i := 1) (v := .ref S) (F₄.st _ _ Ck)
  have F₅ := F₄.over hs₅ CL
  dsimp only
  generalize hh₅ : h₄.update C (putSlot 1 (.ref S)) = h₅ at hs₅ oC₅ F₅ ⊢
  have k₄' : ∀ b o, b ≠ C → h₂.get? b = some o → h₅.get? b = some o := fun b o q e => (hs₅.2 b q).trans (F₄.st _ _ e)
  have hL : hp.get? h₂.objs.size = none := Heap.StaysIn.fresh (StaysIn.trans k₁ k₂)
  have kp : hp.StaysIn h₅ := fun b o e => k₄' b o (ne_of_get e nC) (k₂ _ _ (k₁ _ _ e))
  have T₅ : Txt w mg mb (h₅.hide h₂.objs.size) := T.keeps (StaysIn.hide kp _ hL)
  have C₅ : h₅.get? C = some (chainObj dx (some (.ref S)) none) := oC₅
  have D₅ : h₅.get? dx = some emptyDict := k₄' _ _ dC Dk
  have dL : dx ≠ h₂.objs.size := ne_of_get Dk (Heap.get?_none_of_le (Nat.le_refl _))
  have oS₅ : h₅.get? S = some { cls := .type "tuple_iterator", data := .fields #[.ref t, .int 0 0] } := (hs₅.2 S (ne_of_get (k₃ _ _ Ck) nS).symm).trans oS
  have ot₅ := k₄' t _ (ne_of_get oC nt).symm ot
  clear F₄
  walk_at "mw"
  refine setActive (T₅.keeps F₅.st).k C₅ D₅ ?_
  have hs₆ := Heap.SameBut.update h₅ C (putSlot 0 .none)
  have oC₆ := get_putSlot (i := 0) (v := .none) C₅
  dsimp only
  generalize h₅.update C (putSlot 0 .none) = h₆ at hs₆ oC₆ ⊢
  have C₆ : h₆.get? C = some (chainObj dx (some (.ref S)) (some .none)) := oC₆
  walk_at "mw"
  have sC := (ne_of_get (k₃ _ _ Ck) nS).symm
  have hno : ∀ a, h₃.get? a = none → hp.get? a = none := fun a e => by
    cases q : hp.get? a with
    | none => rfl
    | some o => have := k₃ _ _ (k₂ _ _ (k₁ _ _ q)); rw [e] at this; cases this
  have nt₀ : hp.get? t = none := by
    cases q : hp.get? t with
    | none => rfl
    | some o => have := k₁ _ _ q; rw [nt] at this; cases this
  have tC := (ne_of_get oC nt).symm
  exact ⟨rfl, h h₆ C dx t S _ (fun b o e => (hs₆.2 b (ne_of_get e nC)).trans (kp b o e)) nC nD nt₀ (hno _ nS) dC tC sC (ne_of_get (k₃ _ _ Dk) nS) (ne_of_get (k₃ _ _ ot) nS) C₆ ((hs₆.2 dx dC).trans D₅) ((hs₆.2 t tC).trans ot₅) ⟨_, (hs₆.2 S sC).trans oS₅, rfl, rfl⟩⟩
end Mine
end
section
open PySem PySem.W PyProof.Rows PySem.Calls
set_option linter.unusedVariables false
namespace Mine
set_option maxRecDepth 100000
set_option maxHeartbeats 400000
local macro_rules | `(tactic| walk_at "eval Name") => `(tactic| (with_unfolding_all refine' ldL ?F ?v ?_ ?k ?l ?d; (case F => assumption); (case k => rfl); (case l => rfl); (case d => rfl); (case v => first | assumption | rfl)))
local macro_rules | `(tactic| walk_at "eval Name") => `(tactic| (with_unfolding_all refine' ldG ?T ?F ?e ?_ ?k ?g ?x ?d; (case T => assumption); (case F => assumption); (case k => rfl); (case g => rfl); (case x => rfl); (case d => rfl); (case e => rfl)))
local macro_rules | `(tactic| walk_at "eval Name") => `(tactic| (with_unfolding_all refine' ldB ?T ?F ?e ?v ?n ?_ ?k ?g ?b ?x ?d; (case T => assumption); (case F => assumption); (case k => rfl); (case g => rfl); (case b => rfl); (case x => rfl); (case d => rfl); (case e => rfl); (case v => boot_fast); (case n => decide)))
local macro_rules | `(tactic| walk_at "storeName") => `(tactic| (with_unfolding_all refine' stL ?F ?_ ?k ?l; (case F => assumption); (case k => rfl); (case l => rfl); intro h' F'))
local macro_rules | `(tactic| walk_at "callWith ref") => `(tactic| (with_unfolding_all refine' callWith_K (K := KK _) ?X ?k ?_; (case X => exact (Txt.k (by assumption))); (case k => rfl)))
local macro_rules | `(tactic| walk_at "callWith ref") => `(tactic| (with_unfolding_all refine' callWith_K0 (K := KK _) ?X ?k ?_; (case X => exact (Txt.keeps (by assumption) (Loc.st (by assumption))).k); (case k => rfl)))
local macro_rules | `(tactic| walk_at "And") => `(tactic| (refine ⟨(Txt.keeps (by assumption) (Loc.st (by assumption))).k, ?_⟩))
local macro_rules | `(tactic| walk_at "assign Tuple") => `(tactic| (refine' unpackL ?F ?hh ?ht ?hc ?hd ?hn ?hs ?_; (case F => assumption); (case hh => assumption); (case ht => assumption); (case hc => rfl); (case hd => rfl); (case hn => rfl); (case hs => rfl); intro h' F' k'))
local macro_rules | `(tactic| walk_at "tree") => `(tactic| first | (with_reducible show wpAny _ _ _ _ _ _) | (with_reducible show (if _ then _ else _)) | (with_reducible show Frag.In _ _ ∧ _))
local macro_rules | `(tactic| walk_at "mw") => `(tactic| repeat' (first | (walk_at "tree"; walk1) | (dsimp only; walk_at "tree"; walk1)))
local macro_rules | `(tactic| walk_at "newTuple") => `(tactic| (refine newTupleL (by assumption) (fun h' a' F' ka na Na oa => ?_)))
local macro_rules | `(tactic| walk_at "exec Assign") => `(tactic| (with_reducible refine plainObj_wpAny_Assign_Attribute ?_ ?_; rotate_left; with_unfolding_all rfl))
/-- lists whose items are these, all in a ground B -/
def Lsts (B : Heap) (ls : List (Addr × List Value)) : Prop := ∀ q ∈ ls, ∃ n, B.get? q.1 = some { cls := .type "list", data := .seq q.2.toArray n }
/-- what a chain draws from at the moment: nothing, or a list's iterator with some of the items left -/
def Cur (B h : Heap) (v : Value) (left : List Value) (all : List (Addr × List Value)) : Prop :=
  (v = .none ∧ left = []) ∨ ∃ (a l : Addr) (i : Nat) (its : List Value) (n : Nat), v = .ref a ∧ SIt h "list_iterator" a l i ∧ B.get? a = none ∧ B.get? l = some { cls := .type "list", data := .seq its.toArray n } ∧ left = its.drop i ∧ (l, its) ∈ all
/-- a chain: left is what its moment's iterator holds, ls the lists behind -/
def Chn (B h : Heap) (C dx S t : Addr) (all : List (Addr × List Value)) (n : Nat) (left : List Value) (ls : List (Addr × List Value)) (act : Value) : Prop :=
  ∃ (k : Nat), B.get? C = none ∧ B.get? S = none ∧ h.get? C = some (chainObj dx (some (.ref S)) (some act)) ∧ B.get? dx = some emptyDict ∧ B.get? t = some { cls := .type "tuple", data := .seq (all.map fun q : Addr × List Value => Value.ref q.1).toArray n } ∧
    SIt h "tuple_iterator" S t k ∧ Lsts B all ∧ ls = all.drop k ∧ k ≤ all.length ∧ Cur B h act left all
theorem Blw.deep {A : Around} {B h : Heap} {l : List Env} {env : Env} {L : Addr} {m : Str → Option Value} (K : Blw A B l h) (hn : h.Ns L m) (hB : B.get? L = none) (hf : env.frame = some L) (hk : env.scope.kind = .function) : Blw (A.deeper env) B (env :: l) h :=
  K.inn hn hB hf (by rw [hk]; decide) (Around.frames_deeper K.stack)
theorem hid_none {h : Heap} {a : Addr} {l : List Addr} : (hideAll (h.hide a) l).get? a = none := by
  cases q : (hideAll (h.hide a) l).get? a with
  | none => rfl
  | some o => have := of_hideAll _ q; rw [Heap.hide_self] at this; cases this
theorem Blw.deepHide {A : Around} {B h : Heap} {l : List Env} {env : Env} {L : Addr} {m : Str → Option Value} (K : Blw A B l h) (hn : h.Ns L m) (hB : B.get? L = none) (hf : env.frame = some L) (hk : env.scope.kind = .function) (a : Addr) :
    Blw (A.deeper env) (hideAll (h.hide a) (L :: fsOf l)) (env :: l) h :=
  (K.deep hn hB hf hk).onto _ (fun b o e => Heap.of_hide (of_hideAll _ e)) fun b hb => hideAll_none _ (by rwa [fs_cons hf] at hb)
theorem flightAgain {M : Model} {A : Around} {E : Value → Shared → Prop} {s : Shared} {B : Heap} {l : List Env} {e L : Addr} {X : String} {a0 : Value} {Q : Unit → Shared → Prop} (x : Heap.HeldW B l e (.type X) a0 L s.heap)
    (hQ : ∀ h', Heap.HeldW B l e (.type X) a0 L h' → s.heap.UpToSlots h' → Q () { s with heap := h' }) : wpAny M A (setFlight (.ref e) (some L)) Q E s := by
  obtain ⟨hkb, hen, hl, oe, vs, T, oT, ts, he, hcls, hd, h1, hnT, hTe, hT, hdT, h3⟩ := x
  have hsz3 : 3 < ts.size := (Array.getElem?_eq_some_iff.mp h3).1
  have other : ∀ b, b ≠ T → (s.heap.update T (Obj.mapFields (·.setIfInBounds 3 ((some L : Option Addr).elim Value.none fun f => rawInt f)))).get? b = s.heap.get? b :=
    fun b hb => Heap.get?_update_other _ _ (Ne.symm hb)
  have noRecord : ∀ b o, s.heap.get? b = some o → (∀ vs, o.data ≠ .fields vs) → b ≠ T := fun b o hb hnf q => by
    rw [q, hT] at hb; injection hb with hb; subst hb; exact hnf ts hdT
  unfold setFlight
  refine wpAny_bind (wpAny_field he hd h1 ?_)
  rw [if_pos (show (Value.ref T != Value.none) = true from by simp)]
  refine wpAny_setField hT hdT hsz3 (hQ _ ⟨fun b o hbo => (other b fun q => by rw [q, hnT] at hbo; cases hbo).trans (hkb b o hbo), hen,
    hl.of_keeps fun b o hb hnf => ⟨o, (other b (noRecord b o hb hnf)).trans hb, rfl⟩, ?_⟩ fun b o hb hnf => ⟨o.slots, (other b (noRecord b o hb hnf)).trans hb⟩)
  exact ⟨oe, vs, T, _, _, (other e (Ne.symm hTe)).trans he, hcls, hd, h1, hnT, hTe, Heap.get?_update_self _ hT (Obj.isFreed_of_fields (Obj.data_mapFields hdT _)), Obj.data_mapFields hdT _, by simp [hsz3]⟩
/-- an exception that a suite of this frame's raised again: it comes back flagged -/
theorem cameAgain {M : Model} {A A' : Around} {E : Value → Shared → Prop} {s : Shared} {env : Env} {B : Heap} {l : List Env} {e L : Addr} {X : String} {a0 : Value} (hf : env.frame = some L) (x : Heap.HeldW B l e (.type X) a0 L s.heap)
    (hQ : ∀ h', Heap.HeldW B l e (.type X) a0 L h' → s.heap.UpToSlots h' → E (.ref e) { s with heap := h' }) : notedBy M A' env (cameBackBy M A env E) (.ref e) s := by
  unfold notedBy
  refine wpAny_noteFrame_againW hf x.2.2.2 ?_
  unfold cameBackBy
  obtain ⟨oe, vs, T, oT, ts, he, hcls, hd, h1, r⟩ := id x.2.2.2
  refine wpAny_bind (wpAny_field he hd h1 ?_)
  dsimp only
  rw [if_neg (show ¬ ((Value.ref T == Value.none) = true) from by simp)]
  rw [hf]
  exact flightAgain x hQ
theorem leaveHeld {M : Model} {A : Around} {E : Value → Shared → Prop} {s : Shared} {B : Heap} {env : Env} {l : List Env} {L e : Addr} {X : String} {a0 : Value} {Q : Unit → Shared → Prop} (hf : env.frame = some L)
    (hh : Heap.HeldW B (env :: l) e (.type X) a0 L s.heap) (hQ : ∀ h', Fly B l e X h' → s.heap.UpToSlots h' → Q () { s with heap := h' }) : wpAny M A (leaving env (.ref e)) Q E s := by
  unfold leaving
  refine wpAny_bind (wpAny_noteFrame_againW hf hh.2.2.2 ?_)
  refine wpAny_landsW hh fun h' hfl u => ?_
  obtain ⟨k1, k2, ⟨_, _, k3⟩, k4⟩ := hfl
  exact hQ h' ⟨_, k1, k2, k3, k4⟩ u
theorem cut {M : Model} {A : Around} {t : Sem Flow} {rest : Shared → Prop} {Q : Flow → Shared → Prop} {E : Value → Shared → Prop} {s : Shared} (P : Shared → Prop) (hP : ∀ s', P s' → rest s')
    (h : wpAny M A t (fun f s' => match f with | .next => P s' | f => Q f s') E s) : wpAny M A t (fun f s' => match f with | .next => rest s' | f => Q f s') E s :=
  wpAny_mono h (fun f s' hf => by cases f <;> first | exact hP _ hf | exact hf) fun _ _ x => x
theorem Cur.keeps {B h h' : Heap} {v : Value} {left : List Value} {all : List (Addr × List Value)} (x : Cur B h v left all) (k : ∀ b o, h.get? b = some o → h'.get? b = some o) : Cur B h' v left all := by
  rcases x with x | ⟨a, l, i, its, n, h1, h2, h3, h4, h5, h6⟩
  · exact .inl x
  · exact .inr ⟨a, l, i, its, n, h1, h2.keeps fun o e => k _ o e, h3, h4, h5, h6⟩
theorem Chn.keeps {B h h' : Heap} {C dx S t : Addr} {all : List (Addr × List Value)} {n : Nat} {left : List Value} {ls : List (Addr × List Value)} {act : Value} (x : Chn B h C dx S t all n left ls act) (k : ∀ b o, h.get? b = some o → h'.get? b = some o) : Chn B h' C dx S t all n left ls act :=
  let ⟨kk, h1, h2, h3, h4, h5, h6, h7, h8, h9, h10⟩ := x
  ⟨kk, h1, h2, k _ _ h3, h4, h5, h6.keeps fun o e => k _ o e, h7, h8, h9, h10.keeps k⟩
section
variable {prog : Program} {w : World} {A : Around} {s : Shared} {mg mb : Str → Option Value} {R : Result → Shared → Prop} {B : Heap} {fl : List Env} {C dx S tt : Addr} {all : List (Addr × List Value)} {nn : Nat} {left : List Value} {ls : List (Addr × List Value)} {act : Value}
theorem chain_next (T : Txt w mg mb B) (K : Blw A B fl s.heap) (hh : A.handled = none) (hroom : A.depth + 4 < recursionLimit) (hC : C ∉ fsOf fl) (X : Chn B s.heap C dx S tt all nn left ls act)
    (hR : match left ++ (ls.map (·.2)).flatten with
      | v :: rest => ∀ h' tk' left' ls' act', B.StaysIn h' → Slt (fsOf fl) s.heap h' → Chn B h' C dx S tt all nn left' ls' act' → left' ++ (ls'.map (·.2)).flatten = rest → R (.ok (.ret v)) { s with heap := h', toks := tk' }
      | [] => ∀ h' e tk', Fly B fl e "StopIteration" h' → Slt (fsOf fl) s.heap h' → R (.error (.ref e)) { s with heap := h', toks := tk' }) :
    codeAny (model prog w) A (.call (.ref 74) ⟨[.ref C], []⟩) R s := by
  refine enterR (binds := [(Str.ofString "self", .ref C)]) (T.keeps K.stays) (by omega) rfl rfl rfl rfl rfl (by decide) rfl rfl rfl rfl fun h₀ F => ?_
  try dsimp only
  have T₀ := T.keeps K.stays
  walk_at "mw"
  refine newListL F (fun h₁ P F₁ k₁ nP _ oP => ?_)
  have nP' : s.heap.get? P = none := by
    cases q : s.heap.get? P with
    | none => rfl
    | some o => have := F.st _ _ q; rw [nP] at this; cases this
  have hPL : P ≠ s.heap.objs.size := F.ne nP
  have hPf : P ∉ fsOf fl := fun hp => by obtain ⟨o, ho, _⟩ := K.there hp; rw [nP'] at ho; cases ho
  have hPB : B.get? P = none := by
    cases q : B.get? P with
    | none => rfl
    | some o => have := K.stays _ _ q; rw [nP'] at this; cases this
  have F₂ := F₁.anew
  have hs₁ : s.heap.StaysIn (h₁.hide s.heap.objs.size) := F₁.sub
  have T₂ := T₀.keeps F₁.sub
  have oP₂ := F₁.inn oP hPL
  have X₁ : Chn B (h₁.hide s.heap.objs.size) C dx S tt all nn left ls act := X.keeps fun o b e => F₁.sub _ _ e
  clear F F₁
  walk_at "mw"
  rename_i h₃ F₃
  refine wpAny_While (codeAny_whileLoop (fun n s' => ∃ (h₁ : Heap) (tk₁ : Tok) (m : Str → Option Value) (left₁ : List Value) (ls₁ : List (Addr × List Value)) (act₁ : Value),
    s' = { s with heap := h₁, toks := tk₁ } ∧ h₁.Ns s.heap.objs.size m ∧ m (Str.ofString "path") = some (.ref P) ∧ h₁.get? P = some { cls := .type "list", data := .seq [Value.ref C].toArray } ∧ B.StaysIn h₁ ∧ Slt (fsOf fl) s.heap h₁ ∧
    Chn B h₁ C dx S tt all nn left₁ ls₁ act₁ ∧ left₁ ++ (ls₁.map (·.2)).flatten = left ++ (ls.map (·.2)).flatten ∧ n = 2 * ls₁.length + (if act₁ = .none then 0 else 1)) ?_ (2 * ls.length + (if act = .none then 0 else 1)) ?_)
  · rintro n s' ⟨h₄, tk₄, m, left₁, ls₁, act₁, rfl, ns₄, mP, oP₄, B₄, S₄, X₄, e₄, rfl⟩
    have hBL : B.get? s.heap.objs.size = none := Heap.StaysIn.fresh K.stays
    have F₄ : Loc (h₄.hide s.heap.objs.size) s.heap.objs.size h₄ m := ⟨ns₄, fun _ _ e => Heap.of_hide e, Heap.hide_self ..⟩
    have T₄ : Txt w mg mb (h₄.hide s.heap.objs.size) := T.keeps (StaysIn.hide B₄ _ hBL)
    walk_at "mw"
    refine tail_any (Heap.IsList.typeIs (items := #[.ref C]) ⟨_, oP₄, rfl, _, rfl⟩) slot_list_getitem.lookup (wpAny_getItem_list_neg (items := #[.ref C]) (x := .ref C) ⟨_, oP₄, rfl, _, rfl⟩ (by decide) (by show -(1:Int) ≤ -1; decide) (by decide) rfl ?_) (by with_unfolding_all rfl)
    walk_at "mw"
    rename_i h₅ F₅
    refine cut (fun s' => ∃ (h₁ : Heap) (tk₁ : Tok) (m : Str → Option Value) (left₂ : List Value) (ls₂ : List (Addr × List Value)) (a : Addr),
      s' = { s with heap := h₁, toks := tk₁ } ∧ h₁.Ns s.heap.objs.size m ∧ m (Str.ofString "path") = some (.ref P) ∧ m (Str.ofString "top") = some (.ref C) ∧ h₁.get? P = some { cls := .type "list", data := .seq [Value.ref C].toArray } ∧ B.StaysIn h₁ ∧ Slt (fsOf fl) s.heap h₁ ∧
      Chn B h₁ C dx S tt all nn left₂ ls₂ (.ref a) ∧ left₂ ++ (ls₂.map (·.2)).flatten = left ++ (ls.map (·.2)).flatten ∧ 2 * ls₂.length + 1 ≤ 2 * ls₁.length + (if act₁ = .none then 0 else 1)) ?_ ?_
    · clear F₄ F₅ T₄ X₄ S₄ B₄ oP₄ mP ns₄
      rintro s' ⟨h₆, tk₆, m₆, left₂, ls₂, a, rfl, ns₆, mP₆, mT₆, oP₆, B₆, S₆, X₆, e₆, z₆⟩
      have F₆ : Loc (h₆.hide s.heap.objs.size) s.heap.objs.size h₆ m₆ := ⟨ns₆, fun _ _ e => Heap.of_hide e, Heap.hide_self ..⟩
      have T₆ : Txt w mg mb (h₆.hide s.heap.objs.size) := T.keeps (StaysIn.hide B₆ _ hBL)
      obtain ⟨k, x1, x2, x3, x4, x5, x6, x7, x8, x9, x10⟩ := X₆
      walk_at "mw"
      refine getActive (T₆.keeps F₆.st).k x3 (B₆ _ _ x4) rfl rfl ?_
      walk_at "mw"
      rename_i h₇ F₇
      rcases x10 with ⟨q, _⟩ | ⟨a', l', i, its, n', q, y1, y2, y3, y4, y5⟩
      · cases q
      cases q
      obtain ⟨oa, ha, hca, hda⟩ := id y1
      have aL : a ≠ s.heap.objs.size := by obtain ⟨oL, _, _, hoL, hdL, _⟩ := ns₆; exact fun q => by rw [q, hoL] at ha; cases ha; rw [hdL] at hda; cases hda
      refine call_type_obj (F₇.st _ _ (F₆.inn ha aL)) (by rw [hca]; decide) ?_
      rw [hca]
      walk_at "mw"
      refine wpAny_is_other rfl (fun q => by cases q) ?_
      have CL : C ≠ s.heap.objs.size := by obtain ⟨oL, _, _, hoL, hdL, _⟩ := ns₆; exact fun q => by rw [q, hoL] at x3; cases x3; cases hdL
      have SL : S ≠ s.heap.objs.size := by obtain ⟨oL, _, _, hoL, hdL, _⟩ := ns₆; obtain ⟨oS, hS, _, hdS⟩ := x6; exact fun q => by rw [q, hoL] at hS; cases hS; rw [hdL] at hdS; cases hdS
      have aC : a ≠ C := fun q => by rw [q, x3] at ha; cases ha; cases hda
      have aS : a ≠ S := fun q => by obtain ⟨oS, hS, hcS, _⟩ := x6; rw [q, hS] at ha; cases ha; rw [hcS] at hca; exact absurd (Value.type.inj hca) (by decide)
      have aP : a ≠ P := fun q => by rw [q, oP₆] at ha; cases ha; cases hda
      have C₇ := F₇.st _ _ (F₆.inn x3 CL)
      have B₇ : B.StaysIn h₇ := fun b o e => F₇.st _ _ (StaysIn.hide B₆ _ hBL _ _ e)
      have S₇ : Slt (fsOf fl) h₆ h₇ := Slt.of_keeps fun b o hb e => F₇.st _ _ (F₆.inn e fun z => by
        obtain ⟨o', ho', _⟩ := K.there hb; rw [z, Heap.get?_none_of_le (Nat.le_refl _)] at ho'; cases ho')
      walk_at "mw"
      have lL : l' ≠ s.heap.objs.size := ne_of_get y3 hBL
      have it₇ : SIt h₇ "list_iterator" a l' i := y1.keeps fun o e => F₇.st _ _ (F₆.inn e aL)
      have sq₇ : SSq h₇ l' its.toArray := ⟨_, n', B₇ _ _ y3, rfl⟩
      have hfa : a ∉ fsOf fl := fun hb => by
        obtain ⟨o', ho', hn⟩ := K.there hb
        obtain ⟨_, q⟩ := S₆ a hb _ ho'
        rw [ha] at q; cases q; exact hn _ hda
      rcases hx : its[i]? with _ | x
      · have hnl : left₂ = [] := by rw [y4]; exact List.drop_eq_nil_of_le (List.getElem?_eq_none_iff.mp hx)
        have hSf : S ∉ fsOf fl := fun hb => by
          obtain ⟨o', ho', hn⟩ := K.there hb
          obtain ⟨_, q⟩ := S₆ S hb _ ho'
          obtain ⟨oS, hS, _, hdS⟩ := x6
          rw [hS] at q; cases q; exact hn _ hdS
        have K₇ := K.move (S₆.trans S₇) B₇
        have inB : ∀ b o, b ≠ a → b ≠ s.heap.objs.size → b ∉ fsOf fl → h₇.get? b = some o → (hideAll (h₇.hide a) (s.heap.objs.size :: fsOf fl)).get? b = some o := fun b o q1 q2 q3 e => hideAll_get _ ((Heap.hide_ne _ q1).trans e) fun z => by
          rcases List.mem_cons.mp z with z | z
          · exact q2 z
          · exact q3 z
        have BB : B.StaysIn (hideAll (h₇.hide a) (s.heap.objs.size :: fsOf fl)) := fun b o e => inB b o (ne_of_get e y2) (ne_of_get e hBL) (fun hb => by rw [K.no hb] at e; cases e) (B₇ _ _ e)
        refine wpAny_call ?_
        refine pull_end (fl := _ :: fl) (T.keeps BB) (K₇.deepHide F₇.ns hBL rfl rfl a) (by exact hh) (by show A.depth + 1 + 2 < recursionLimit; omega) (.inl rfl) it₇ hid_none (fun z => (List.mem_cons.mp z).elim aL hfa) sq₇ (by rw [List.getElem?_toArray]; exact hx) fun h₈ r tk₈ st₈ sl₈ nr₈ nf₈ or₈ => ?_
        have B₈ : B.StaysIn h₈ := StaysIn.trans BB st₈
        have S₈ : Slt (fsOf fl) h₇ h₈ := sl₈.mono fun b hb => by rw [fs_cons (L := s.heap.objs.size) rfl]; exact .tail _ hb
        have C₈ := st₈ _ _ (inB C _ aC.symm CL hC C₇)
        have it₈ := (x6.keeps fun o e => F₇.st _ _ (F₆.inn e SL)).keeps fun o e => st₈ _ _ (inB S _ aS.symm SL hSf e)
        have P₈ := st₈ _ _ (inB P _ aP.symm hPL hPf (F₇.st _ _ (F₆.inn oP₆ hPL)))
        have ns₈ := sl₈.ns F₇.ns (by rw [fs_cons (L := s.heap.objs.size) rfl]; exact .head _)
        have F₈ : Loc (h₈.hide s.heap.objs.size) s.heap.objs.size h₈ _ := ⟨ns₈, fun _ _ e => Heap.of_hide e, Heap.hide_self ..⟩
        have T₈ : Txt w mg mb (h₈.hide s.heap.objs.size) := T.keeps (StaysIn.hide B₈ _ hBL)
        clear F₇ F₆ T₆
        dsimp only
        walk_at "mw"
        rename_i h₉ F₉ k₉ h₁₀ F₁₀ h₁₁ F₁₁
        have C₁₁ := F₁₁.st _ _ (F₈.inn C₈ CL)
        have dB₁₁ : B.StaysIn h₁₁ := fun b o e => F₁₁.st _ _ (StaysIn.hide B₈ _ hBL _ _ e)
        refine setActive (T.keeps dB₁₁).k C₁₁ (dB₁₁ _ _ x4) ?_
        have hs₁₂ := Heap.SameBut.update h₁₁ C (putSlot 0 .none)
        have C₁₂ : (h₁₁.update C (putSlot 0 .none)).get? C = some (chainObj dx (some (.ref S)) (some .none)) := get_putSlot (i := 0) (v := .none) C₁₁
        have F₁₂ := F₁₁.over hs₁₂ CL
        dsimp only
        generalize h₁₁.update C (putSlot 0 .none) = h₁₂ at hs₁₂ C₁₂ F₁₂ ⊢
        walk_at "mw"
        have SC : S ≠ C := fun q => by obtain ⟨oS, hS, _, hdS⟩ := x6; rw [q, x3] at hS; cases hS; cases hdS
        have PC : P ≠ C := fun q => by rw [q, x3] at oP₆; cases oP₆
        have rem₂ : [] ++ (ls₂.map (·.2)).flatten = left ++ (ls.map (·.2)).flatten := by rw [← e₆, hnl]
        refine ⟨2 * ls₂.length, by omega, h₁₂, _, _, [], ls₂, .none, rfl, F₁₂.ns, by with_unfolding_all exact mP₆, (hs₁₂.2 P PC).trans (F₁₁.st _ _ (F₈.inn P₈ hPL)), fun b o e => (hs₁₂.2 b (ne_of_get e x1)).trans (dB₁₁ _ _ e), ?_, ?_, rem₂, rfl⟩
        · exact S₆.trans (S₇.trans (S₈.trans (Slt.of_keeps fun b o hb e => (hs₁₂.2 b (fun (z : b = C) => hC (z ▸ hb))).trans (F₁₁.st _ _ (F₈.inn e fun z => by
            obtain ⟨o', ho', _⟩ := K.there hb; rw [z, Heap.get?_none_of_le (Nat.le_refl _)] at ho'; cases ho')))))
        · exact ⟨k, x1, x2, C₁₂, x4, x5, it₈.keeps fun o e => (hs₁₂.2 S SC).trans (F₁₁.st _ _ (F₈.inn e SL)), x7, x8, x9, .inl ⟨rfl, rfl⟩⟩
      · refine wpAny_call ?_
        refine pull_item (T₆.keeps F₇.st) (by exact hh) (by show A.depth + 1 + 2 < recursionLimit; omega) (.inl rfl) it₇ sq₇ (by rw [List.getElem?_toArray]; exact hx) fun h₈ r tk₈ k₈ it₈ nr or => ?_
        have B₈ : B.StaysIn h₈ := fun b o e => k₈ b o (ne_of_get e y2) (B₇ b o e)
        have S₈ : Slt (fsOf fl) h₇ h₈ := Slt.of_keeps fun b o hb e => k₈ b o (fun (z : b = a) => hfa (z ▸ hb)) e
        have C₈ := k₈ _ _ aC.symm C₇
        have itS₈ := (x6.keeps fun o e => F₇.st _ _ (F₆.inn e SL)).keeps fun o e => k₈ _ _ aS.symm e
        have F₈ : Loc (h₈.hide s.heap.objs.size) s.heap.objs.size h₈ _ := ⟨F₇.ns.at' fun o e => k₈ _ _ aL.symm e, fun _ _ e => Heap.of_hide e, Heap.hide_self ..⟩
        have T₈ : Txt w mg mb (h₈.hide s.heap.objs.size) := T.keeps (StaysIn.hide B₈ _ hBL)
        clear F₇ F₆ T₆
        dsimp only
        walk_at "mw"
        rename_i h₉ F₉ k₉ h₁₀ F₁₀ h₁₁ F₁₁
        dsimp only
        have hl : left₂ = x :: its.drop (i + 1) := by rw [y4]; obtain ⟨hlt, rfl⟩ := List.getElem?_eq_some_iff.mp hx; exact List.drop_eq_getElem_cons hlt
        rw [← e₆, hl] at hR
        exact hR h₁₁ _ (its.drop (i + 1)) ls₂ (.ref a) (fun b o e => F₁₁.st _ _ (StaysIn.hide B₈ _ hBL _ _ e)) (S₆.trans (S₇.trans (S₈.trans (Slt.of_keeps fun b o hb e => F₁₁.st _ _ (F₈.inn e fun z => by
            obtain ⟨o', ho', _⟩ := K.there hb; rw [z, Heap.get?_none_of_le (Nat.le_refl _)] at ho'; cases ho')))))
          ⟨k, x1, x2, F₁₁.st _ _ (F₈.inn C₈ CL), x4, x5, itS₈.keeps fun o e => F₁₁.st _ _ (F₈.inn e SL), x7, x8, x9, .inr ⟨a, l', i + 1, its, n', rfl, it₈.keeps fun o e => F₁₁.st _ _ (F₈.inn e aL), y2, y3, rfl, y5⟩⟩ rfl
    · refine wpAny_Try_except ?_
      obtain ⟨k, x1, x2, x3, x4, x5, x6, x7, x8, x9, x10⟩ := X₄
      have CL : C ≠ s.heap.objs.size := by obtain ⟨oL, _, _, hoL, hdL, _⟩ := ns₄; exact fun q => by rw [q, hoL] at x3; cases x3; cases hdL
      have SL : S ≠ s.heap.objs.size := by obtain ⟨oL, _, _, hoL, hdL, _⟩ := ns₄; obtain ⟨oS, hS, _, hdS⟩ := x6; exact fun q => by rw [q, hoL] at hS; cases hS; rw [hdL] at hdS; cases hdS
      have SC : S ≠ C := fun q => by obtain ⟨oS, hS, _, hdS⟩ := x6; rw [q, x3] at hS; cases hS; cases hdS
      have PC : P ≠ C := fun q => by rw [q, x3] at oP₄; cases oP₄
      have SP : S ≠ P := fun q => by obtain ⟨oS, hS, _, hdS⟩ := x6; rw [q, oP₄] at hS; cases hS; cases hdS
      have hSf : S ∉ fsOf fl := fun hb => by
        obtain ⟨o', ho', hn⟩ := K.there hb
        obtain ⟨_, q⟩ := S₄ S hb _ ho'
        obtain ⟨oS, hS, _, hdS⟩ := x6
        rw [hS] at q; cases q; exact hn _ hdS
      have B₅ : B.StaysIn h₅ := fun b o e => F₅.st _ _ (StaysIn.hide B₄ _ hBL _ _ e)
      have C₅ := F₅.st _ _ (F₄.inn x3 CL)
      walk_at "mw"
      refine getSource (T.keeps B₅).k C₅ (B₅ _ _ x4) rfl rfl ?_
      walk_at "mw"
      rcases x10 with ⟨q, q'⟩ | ⟨a, l', i, its, n', q, y1, y2, y3, y4, y5⟩
      · subst q
        subst q'
        refine getActive (T.keeps B₅).k C₅ (B₅ _ _ x4) rfl rfl ?_
        walk_at "mw"
        refine wpAny_Try_except ?_
        walk_at "mw"
        refine getSource (T.keeps B₅).k C₅ (B₅ _ _ x4) rfl rfl ?_
        walk_at "mw"
        have S₅ : Slt (fsOf fl) h₄ h₅ := Slt.of_keeps fun b o hb e => F₅.st _ _ (F₄.inn e fun z => by
          obtain ⟨o', ho', _⟩ := K.there hb; rw [z, Heap.get?_none_of_le (Nat.le_refl _)] at ho'; cases ho')
        have K₅ := K.move (S₄.trans S₅) B₅
        have itS₅ : SIt h₅ "tuple_iterator" S tt k := x6.keeps fun o e => F₅.st _ _ (F₄.inn e SL)
        have sq₅ : SSq h₅ tt (all.map fun q : Addr × List Value => Value.ref q.1).toArray := ⟨_, nn, B₅ _ _ x5, rfl⟩
        have P₅ := F₅.st _ _ (F₄.inn oP₄ hPL)
        rcases hx : all[k]? with _ | ⟨l₁, vs₁⟩
        · have hkn : k = all.length := Nat.le_antisymm x9 (List.getElem?_eq_none_iff.mp hx)
          have hrem : left ++ (ls.map (·.2)).flatten = [] := by rw [← e₄, x8, hkn, List.drop_length]; rfl
          rw [hrem] at hR
          have inB : ∀ b o, b ≠ S → b ≠ s.heap.objs.size → b ∉ fsOf fl → h₅.get? b = some o → (hideAll (h₅.hide S) (s.heap.objs.size :: fsOf fl)).get? b = some o := fun b o q1 q2 q3 e => hideAll_get _ ((Heap.hide_ne _ q1).trans e) fun z => by
            rcases List.mem_cons.mp z with z | z
            · exact q2 z
            · exact q3 z
          have BB : B.StaysIn (hideAll (h₅.hide S) (s.heap.objs.size :: fsOf fl)) := fun b o e => inB b o (ne_of_get e x2) (ne_of_get e hBL) (fun hb => by rw [K.no hb] at e; cases e) (B₅ _ _ e)
          refine wpAny_call ?_
          refine pull_end (fl := _ :: fl) (T.keeps BB) (K₅.deepHide F₅.ns hBL rfl rfl S) (by exact hh) (by show A.depth + 1 + 2 < recursionLimit; omega) (.inr rfl) itS₅ hid_none (fun z => (List.mem_cons.mp z).elim SL hSf) sq₅ (by rw [List.getElem?_toArray, List.getElem?_map, hx]; rfl) fun h₈ r tk₈ st₈ sl₈ nr₈ nf₈ or₈ => ?_
          have B₈ : B.StaysIn h₈ := StaysIn.trans BB st₈
          have S₈ : Slt (fsOf fl) h₅ h₈ := sl₈.mono fun b hb => by rw [fs_cons (L := s.heap.objs.size) rfl]; exact .tail _ hb
          have C₈ := st₈ _ _ (inB C _ SC.symm CL hC C₅)
          have P₈ := st₈ _ _ (inB P _ SP.symm hPL hPf P₅)
          have ns₈ := sl₈.ns F₅.ns (by rw [fs_cons (L := s.heap.objs.size) rfl]; exact .head _)
          have F₈ : Loc (h₈.hide s.heap.objs.size) s.heap.objs.size h₈ _ := ⟨ns₈, fun _ _ e => Heap.of_hide e, Heap.hide_self ..⟩
          have T₈ : Txt w mg mb (h₈.hide s.heap.objs.size) := T.keeps (StaysIn.hide B₈ _ hBL)
          clear F₅ F₄ T₄
          dsimp only
          walk_at "mw"
          rename_i h₉ F₉ k₉ h₁₀ F₁₀ h₁₁ F₁₁
          have C₁₁ := F₁₁.st _ _ (F₈.inn C₈ CL)
          have P₁₁ := F₁₁.st _ _ (F₈.inn P₈ hPL)
          have dB₁₁ : B.StaysIn h₁₁ := fun b o e => F₁₁.st _ _ (StaysIn.hide B₈ _ hBL _ _ e)
          refine setSource (T.keeps dB₁₁).k C₁₁ (dB₁₁ _ _ x4) ?_
          have hs₁₂ := Heap.SameBut.update h₁₁ C (putSlot 1 .none)
          have F₁₂ := F₁₁.over hs₁₂ CL
          dsimp only
          generalize h₁₁.update C (putSlot 1 .none) = h₁₂ at hs₁₂ F₁₂ ⊢
          have B₁₂ : B.StaysIn h₁₂ := fun b o e => (hs₁₂.2 b (ne_of_get e x1)).trans (dB₁₁ _ _ e)
          have P₁₂ := (hs₁₂.2 P PC).trans P₁₁
          have S₁₂ : Slt (fsOf fl) s.heap h₁₂ := S₄.trans (S₅.trans (S₈.trans (Slt.of_keeps fun b o hb e => (hs₁₂.2 b (fun (z : b = C) => hC (z ▸ hb))).trans (F₁₁.st _ _ (F₈.inn e fun z => by
            obtain ⟨o', ho', _⟩ := K.there hb; rw [z, Heap.get?_none_of_le (Nat.le_refl _)] at ho'; cases ho')))))
          clear F₈ F₉ F₁₀ F₁₁ T₈
          walk_at "mw"
          refine owsi_raiseC (by exact hh) (ldB (T.keeps (StaysIn.hide B₁₂ _ hBL)) F₁₂ rfl (by kernel_rfl) (by decide) ⟨rfl, rfl⟩ rfl rfl rfl rfl rfl) fun h₁₃ e hm => ?_
          have K₁₂ := K.move S₁₂ B₁₂
          refine noteNew (K₁₂.deep F₁₂.ns hBL rfl rfl) rfl (Heap.MadeExc.of hm) fun h₁₄ a0 held u₁₄ => ?_
          refine wpAny_landsW held fun h₁₅ fl₁₅ u₁₅ => ?_
          have u₁₅' : h₁₂.UpToSlots h₁₅ := ((Heap.UpToSlots.of_keeps hm.keeps).trans u₁₄).trans u₁₅
          have ns₁₅ := u₁₅'.ns F₁₂.ns
          refine handleK (b := true) (T' := "StopIteration") T ns₁₅ hBL fl₁₅ rfl (by kernel_rfl) (by decide) rfl rfl rfl rfl rfl rfl (by rw [isSubtype_type]; kernel_rfl) (by kernel_rfl) (by rw [isSubtype_type]; kernel_rfl) ?_
          rw [if_pos rfl]
          intro h₁₆ fl₁₆ u₁₆
          have F₁₆ : Loc (h₁₆.hide s.heap.objs.size) s.heap.objs.size h₁₆ _ := ⟨u₁₆.ns ns₁₅, fun _ _ e => Heap.of_hide e, Heap.hide_self ..⟩
          have T₁₆ : Txt w mg mb (h₁₆.hide s.heap.objs.size) := T.keeps (StaysIn.hide fl₁₆.1 _ hBL)
          obtain ⟨slp, P₁₆⟩ := (u₁₅'.trans u₁₆) P _ P₁₂ (fun vs q => by cases q)
          clear F₁₂
          walk_at "mw"
          refine call_len_list (items := #[.ref C]) ⟨_, P₁₆, rfl, _, rfl⟩ (by show (1 : Int) < 2 ^ 63; decide) ?_
          walk_at "mw"
          · refine bareRaise (L := s.heap.objs.size) fl₁₆ rfl rfl fun h₁₇ held₁₇ u₁₇ => ?_
            refine cameAgain (L := s.heap.objs.size) rfl held₁₇ fun h₁₈ held₁₈ u₁₈ => ?_
            refine cameAgain (L := s.heap.objs.size) rfl held₁₈ fun h₁₉ held₁₉ u₁₉ => ?_
            refine leaveHeld (L := s.heap.objs.size) rfl held₁₉ fun h₂₀ fl₂₀ u₂₀ => ?_
            exact hR _ _ _ fl₂₀ (S₁₂.trans (K₁₂.slt (((((u₁₅'.trans u₁₆).trans u₁₇).trans u₁₈).trans u₁₉).trans u₂₀)))
          · rename_i hne
            exact absurd rfl hne
        · obtain ⟨hlt, hat⟩ := List.getElem?_eq_some_iff.mp hx
          have hls : ls₁ = (l₁, vs₁) :: all.drop (k + 1) := by rw [x8, List.drop_eq_getElem_cons hlt, hat]
          obtain ⟨n₁, hl₁⟩ := x7 (l₁, vs₁) (List.mem_iff_getElem.mpr ⟨k, hlt, hat⟩)
          dsimp only at hl₁
          refine wpAny_call ?_
          refine pull_item (T.keeps B₅) (by exact hh) (by show A.depth + 1 + 2 < recursionLimit; omega) (.inr rfl) itS₅ sq₅ (x := .ref l₁) (by rw [List.getElem?_toArray, List.getElem?_map, hx]; rfl) fun h₈ r tk₈ k₈ it₈ nr or => ?_
          have B₈ : B.StaysIn h₈ := fun b o e => k₈ b o (ne_of_get e x2) (B₅ b o e)
          have C₈ := k₈ _ _ SC.symm C₅
          have P₈ := k₈ _ _ SP.symm P₅
          have F₈ : Loc (h₈.hide s.heap.objs.size) s.heap.objs.size h₈ _ := ⟨F₅.ns.at' fun o e => k₈ _ _ SL.symm e, fun _ _ e => Heap.of_hide e, Heap.hide_self ..⟩
          have T₈ : Txt w mg mb (h₈.hide s.heap.objs.size) := T.keeps (StaysIn.hide B₈ _ hBL)
          clear F₅ F₄ T₄
          dsimp only
          walk_at "mw"
          rename_i h₉ F₉ k₉ h₁₀ F₁₀ h₁₁ F₁₁
          refine wpAny_Try_except ?_
          walk_at "mw"
          have C₁₁ := F₁₁.st _ _ (F₈.inn C₈ CL)
          have dB₁₁ : B.StaysIn h₁₁ := fun b o e => F₁₁.st _ _ (StaysIn.hide B₈ _ hBL _ _ e)
          refine iterCall (iterListL F₁₁ ⟨_, dB₁₁ _ _ hl₁, rfl, _, rfl⟩ fun h₁₂ a F₁₂ k₁₂ na oa => ?_)
          clear F₉ F₁₀
          walk_at "mw"
          refine setActive (T.keeps (StaysIn.trans dB₁₁ k₁₂)).k (k₁₂ _ _ C₁₁) (k₁₂ _ _ (dB₁₁ _ _ x4)) ?_
          have hs₁₃ := Heap.SameBut.update h₁₂ C (putSlot 0 (.ref a))
          have C₁₃ : (h₁₂.update C (putSlot 0 (.ref a))).get? C = some (chainObj dx (some (.ref S)) (some (.ref a))) := get_putSlot (i := 0) (v := .ref a) (k₁₂ _ _ C₁₁)
          have F₁₃ := F₁₂.over hs₁₃ CL
          dsimp only
          generalize h₁₂.update C (putSlot 0 (.ref a)) = h₁₃ at hs₁₃ C₁₃ F₁₃ ⊢
          walk_at "mw"
          have aC : a ≠ C := (ne_of_get C₁₁ na).symm
          have aB : B.get? a = none := by
            cases q : B.get? a with
            | none => rfl
            | some o => have := dB₁₁ _ _ q; rw [na] at this; cases this
          refine ⟨h₁₃, _, _, vs₁, all.drop (k + 1), a, rfl, F₁₃.ns, by with_unfolding_all exact mP, by with_unfolding_all rfl, (hs₁₃.2 P PC).trans (k₁₂ _ _ (F₁₁.st _ _ (F₈.inn P₈ hPL))), fun b o e => (hs₁₃.2 b (ne_of_get e x1)).trans (k₁₂ _ _ (dB₁₁ _ _ e)), ?_, ?_, ?_, ?_⟩
          · exact S₄.trans (S₅.trans (Slt.of_keeps fun b o hb e => (hs₁₃.2 b (fun (z : b = C) => hC (z ▸ hb))).trans (k₁₂ _ _ (F₁₁.st _ _ (F₈.inn (k₈ _ _ (fun (z : b = S) => hSf (z ▸ hb)) e) fun z => by
              obtain ⟨o', ho', _⟩ := K.there hb; rw [z, Heap.get?_none_of_le (Nat.le_refl _)] at ho'; cases ho')))))
          · refine ⟨k + 1, x1, x2, C₁₃, x4, x5, it₈.keeps fun o e => (hs₁₃.2 S SC).trans (k₁₂ _ _ (F₁₁.st _ _ (F₈.inn e SL))), x7, rfl, hlt, .inr ⟨a, l₁, 0, vs₁, n₁, rfl, ⟨_, (hs₁₃.2 a aC).trans oa, rfl, rfl⟩, aB, hl₁, rfl, List.mem_iff_getElem.mpr ⟨k, hlt, hat⟩⟩⟩
          · rw [← e₄, hls]; simp
          · rw [hls]; simp; omega
      · subst q
        refine getActive (T.keeps B₅).k C₅ (B₅ _ _ x4) rfl rfl ?_
        walk_at "mw"
        have aL : a ≠ s.heap.objs.size := by obtain ⟨oL, _, _, hoL, hdL, _⟩ := ns₄; obtain ⟨oa, ha, _, hda⟩ := y1; exact fun q => by rw [q, hoL] at ha; cases ha; rw [hdL] at hda; cases hda
        have S₅ : Slt (fsOf fl) h₄ h₅ := Slt.of_keeps fun b o hb e => F₅.st _ _ (F₄.inn e fun z => by
          obtain ⟨o', ho', _⟩ := K.there hb; rw [z, Heap.get?_none_of_le (Nat.le_refl _)] at ho'; cases ho')
        refine ⟨h₅, _, _, left₁, ls₁, a, rfl, F₅.ns, by with_unfolding_all exact mP, by with_unfolding_all rfl, F₅.st _ _ (F₄.inn oP₄ hPL), B₅, S₄.trans S₅, ?_, e₄, by simp⟩
        exact ⟨k, x1, x2, C₅, x4, x5, x6.keeps fun o e => F₅.st _ _ (F₄.inn e SL), x7, x8, x9, .inr ⟨a, l', i, its, n', rfl, y1.keeps fun o e => F₅.st _ _ (F₄.inn e aL), y2, y3, y4, y5⟩⟩
  · exact ⟨_, _, _, left, ls, act, rfl, F₃.ns, rfl, F₃.st _ _ oP₂, fun b o e => F₃.st _ _ (hs₁ _ _ (K.stays _ _ e)), Slt.of_keeps fun b o _ e => F₃.st _ _ (hs₁ _ _ e), X₁.keeps fun b o e => F₃.st _ _ e, rfl, rfl⟩
end
end Mine
end
section
open PySem PySem.W PyProof.Rows PySem.Calls
set_option linter.unusedVariables false
namespace Mine
set_option maxRecDepth 100000
set_option maxHeartbeats 4000000
local macro_rules | `(tactic| walk_at "eval Name") => `(tactic| (with_unfolding_all refine' ldL ?F ?v ?_ ?k ?l ?d; (case F => assumption); (case k => rfl); (case l => rfl); (case d => rfl); (case v => first | assumption | rfl)))
local macro_rules | `(tactic| walk_at "eval Name") => `(tactic| (with_unfolding_all refine' ldG ?T ?F ?e ?_ ?k ?g ?x ?d; (case T => assumption); (case F => assumption); (case k => rfl); (case g => rfl); (case x => rfl); (case d => rfl); (case e => rfl)))
local macro_rules | `(tactic| walk_at "eval Name") => `(tactic| (with_unfolding_all refine' ldB ?T ?F ?e ?v ?n ?_ ?k ?g ?b ?x ?d; (case T => assumption); (case F => assumption); (case k => rfl); (case g => rfl); (case b => rfl); (case x => rfl); (case d => rfl); (case e => rfl); (case v => boot_fast); (case n => decide)))
local macro_rules | `(tactic| walk_at "storeName") => `(tactic| (with_unfolding_all refine' stL ?F ?_ ?k ?l; (case F => assumption); (case k => rfl); (case l => rfl); intro h' F'))
local macro_rules | `(tactic| walk_at "callWith ref") => `(tactic| (with_unfolding_all refine' callWith_K (K := KK _) ?X ?k ?_; (case X => exact (Txt.k (by assumption))); (case k => rfl)))
local macro_rules | `(tactic| walk_at "callWith ref") => `(tactic| (with_unfolding_all refine' callWith_K0 (K := KK _) ?X ?k ?_; (case X => exact (Txt.keeps (by assumption) (Loc.st (by assumption))).k); (case k => rfl)))
local macro_rules | `(tactic| walk_at "And") => `(tactic| (refine ⟨(Txt.keeps (by assumption) (Loc.st (by assumption))).k, ?_⟩))
local macro_rules | `(tactic| walk_at "assign Tuple") => `(tactic| (refine' unpackL ?F ?hh ?ht ?hc ?hd ?hn ?hs ?_; (case F => assumption); (case hh => assumption); (case ht => assumption); (case hc => rfl); (case hd => rfl); (case hn => rfl); (case hs => rfl); intro h' F' k'))
local macro_rules | `(tactic| walk_at "tree") => `(tactic| first | (with_reducible show wpAny _ _ _ _ _ _) | (with_reducible show (if _ then _ else _)) | (with_reducible show Frag.In _ _ ∧ _))
local macro_rules | `(tactic| walk_at "mw") => `(tactic| repeat' (first | (walk_at "tree"; walk1) | (dsimp only; walk_at "tree"; walk1)))
local macro_rules | `(tactic| walk_at "newTuple") => `(tactic| (refine newTupleL (by assumption) (fun h' a' F' ka na Na oa => ?_)))
local macro_rules | `(tactic| walk_at "exec Assign") => `(tactic| (with_reducible refine plainObj_wpAny_Assign_Attribute ?_ ?_; rotate_left; with_unfolding_all rfl))
section
variable {M : Model} {A : Around} {R : GenEnd} {Y : Protocol} {n : Nat} {s₀ : Shared} {c : Code} {fs : List Frame} {s : Shared} {env : Env}
  {K : Flow → Sem Fin} {H : Value → Sem Fin} {gd : Bool → Bool} {lv : List Value → List Value}
theorem sem_assoc {α β γ : Type} (m : Sem α) (f : α → Sem β) (g : β → Sem γ) : (m >>= f) >>= g = m >>= fun a => f a >>= g := by
  show (m.bind f).bind g = m.bind _
  induction m <;> simp only [Sem.bind, *] <;> rfl
theorem execs_app : ∀ (pre rest : List Stmt), execs (pre ++ rest) env = (do match ← execs pre env with | .next => execs rest env | f => pure f)
  | [], rest => rfl
  | st :: pre, rest => by
    rw [List.cons_append, execs_cons, execs_cons, sem_assoc]
    congr 1
    funext f
    cases f with
    | next => exact execs_app pre rest
    | _ => rfl
/-- the statements ahead, none of which yields -/
theorem seg_pre (pre rest : List Stmt) (h : wpAny M (A.over c fs) (execs pre env) (fun f s' => match f with | .next => Seg M A R Y n s₀ c ((execs rest env).wrap K H gd lv) fs s' | f => Seg M A R Y n s₀ c (K f) fs s') (fun x s' => Seg M A R Y n s₀ c (H x) fs s') s) :
    Seg M A R Y n s₀ c ((execs (pre ++ rest) env).wrap K H gd lv) fs s := by
  rw [execs_app, Sem.bind_eq_wrap', Sem.wrap_wrap]
  exact seg_wrap (wpAny_mono h (fun f s' hf => by cases f <;> exact hf) fun _ _ x => x)
theorem seg_For {target : Expr} {iter : Expr} {body orelse : List Stmt} {pos : Pos}
    (h : wpAny M (A.over c fs) (eval iter env) (fun x s₁ => wpAny M (A.over c fs) (pyIter x) (fun it s₂ => ∀ p, Seg M A R Y n s₀ (.forLoop target it body orelse env) (M.den (.forLoop target it body orelse env))
      (.ret (fun r => ((match r with | .ok f => (.pure f : Sem Flow) | .error e => .raise e).onRaise fun (x : Value) => do
        if (← field x 1) == Value.none then unsupported "frame.own-activation:exception-without-traceback"
        setFlight x env.frame).wrap K H gd lv) none (gd false) (lv []) c p [] :: fs) s₂) (fun x s' => Seg M A R Y n s₀ c (H x) fs s') s₁) (fun x s' => Seg M A R Y n s₀ c (H x) fs s') s)
    (hs : ∀ x, foldedSetIterable iter env x = pure x := by intro _; rfl) :
    Seg M A R Y n s₀ c ((exec (.For target iter body orelse pos) env).wrap K H gd lv) fs s := by
  rw [exec_For]
  refine seg_bind_wrap (wpAny_standAt ?_)
  refine seg_bind_wrap (wpAny_mono h (fun x s₁ h₁ => ?_) fun _ _ z => z)
  rw [hs x]
  refine seg_bind_wrap (wpAny_pure ?_)
  refine seg_bind_wrap (wpAny_standAt ?_)
  refine seg_bind_wrap (wpAny_holding (wpAny_mono h₁ (fun it s₂ h₂ => ?_) fun _ _ z => z))
  exact seg_call h₂
end

section
variable {prog : Program} {w : World} {A : Around} {R : GenEnd} {Y : Protocol} {n : Nat} {s₀ : Shared} {fs : List Frame} {s : Shared} {env : Env} {target : Expr} {it : Value} {body : List Stmt}
/-- a turn of a for loop whose body may yield -/
theorem seg_forLoop
    (h : wpAny (model prog w) (A.over (.forLoop target it body [] env) fs) (pyNext it) (fun r s' => match r with
      | none => ∀ c', Seg (model prog w) A R Y n s₀ c' (leafOf (.ok .next)) fs s'
      | some v => wpAny (model prog w) (A.over (.forLoop target it body [] env) fs) (assign target env v) (fun _ s₂ =>
          Seg (model prog w) A R Y n s₀ (.forLoop target it body [] env) ((execs body env).wrap (fun f => match f with
            | .next | .cont => .pure (.again (.forLoop target it body [] env))
            | .brk => .pure (.done .next)
            | .ret v => .pure (.done (.ret v))) (fun e => (do noteFrame e env; theTreesLotGoes e : Sem Unit).wrap (fun _ => .raise e) .raise id id) id id) fs s₂)
        (fun x s₂ => Seg (model prog w) A R Y n s₀ (.forLoop target it body [] env) ((do noteFrame x env; theTreesLotGoes x : Sem Unit).wrap (fun _ => .raise x) .raise id id) fs s₂) s')
      (fun x s' => Seg (model prog w) A R Y n s₀ (.forLoop target it body [] env) ((do noteFrame x env; theTreesLotGoes x : Sem Unit).wrap (fun _ => .raise x) .raise id id) fs s') s)
    (ht : ∀ v, letOwnedTupleGo target it v = pure () := by intro _; rfl) :
    Seg (model prog w) A R Y n s₀ (.forLoop target it body [] env) ((model prog w).den (.forLoop target it body [] env)) fs s := by
  show Seg _ A R Y n s₀ _ ((forTurn target it body [] env).onRaise (fun x => do noteFrame x env; theTreesLotGoes x)) fs s
  unfold forTurn
  rw [Sem.onRaise_eq_wrap]
  refine seg_bind_wrap (wpAny_standAt ?_)
  refine seg_bind_wrap (wpAny_onRaise (wpAny_mono h (fun r s' hr => ?_) fun x s' hx => ?_))
  · cases r with
    | none =>
      refine seg_again rfl ?_
      show Seg _ A R Y n s₀ _ (((execs [] env).onRaise (fun x => do noteFrame x env; theTreesLotGoes x)) >>= fun f => pure (.done f)) fs s'
      exact hr _
    | some v =>
      refine seg_bind_wrap (wpAny_of_eq (ht v) ?_)
      refine seg_bind_wrap (wpAny_mono hr (fun _ s₂ h₂ => ?_) fun x s₂ h₂ => ?_)
      · rw [Sem.bind_eq_wrap', Sem.wrap_wrap]
        rw [Sem.wrap_congr (execs body env) _ _ (K' := fun f => match f with
            | .next | .cont => .pure (.again (.forLoop target it body [] env))
            | .brk => .pure (.done .next)
            | .ret v => .pure (.done (.ret v))) (H' := (fun e => (do noteFrame e env; theTreesLotGoes e : Sem Unit).wrap (fun _ => .raise e) .raise id id))
          (fun f => by cases f <;> rfl)
          (fun e => by first | exact Sem.bind_eq_wrap _ _ | (show (do noteFrame e env; theTreesLotGoes e : Sem Unit).bind (fun _ => .raise e) = _; rw [Sem.bind_eq_wrap]))]
        exact h₂
      · first
          | (rw [← Sem.bind_eq_wrap] at h₂; exact h₂)
          | (show Seg _ A R Y n s₀ _ ((do noteFrame x env; theTreesLotGoes x : Sem Unit).bind fun _ => .raise x) fs s₂; rw [Sem.bind_eq_wrap]; exact h₂)
  · refine wpAny_standAt ?_
    first
      | (rw [← Sem.bind_eq_wrap] at hx; exact hx)
      | (show Seg _ A R Y n s₀ _ ((do noteFrame x env; theTreesLotGoes x : Sem Unit).bind fun _ => .raise x) fs s'; rw [Sem.bind_eq_wrap]; exact hx)
end
end Mine
end
section
open PySem PySem.W PyProof.Rows PySem.Calls
set_option linter.unusedVariables false
namespace Mine
set_option maxRecDepth 100000
set_option maxHeartbeats 4000000
local macro_rules | `(tactic| walk_at "eval Name") => `(tactic| (with_unfolding_all refine' ldL ?F ?v ?_ ?k ?l ?d; (case F => assumption); (case k => rfl); (case l => rfl); (case d => rfl); (case v => first | assumption | rfl)))
local macro_rules | `(tactic| walk_at "eval Name") => `(tactic| (with_unfolding_all refine' ldG ?T ?F ?e ?_ ?k ?g ?x ?d; (case T => assumption); (case F => assumption); (case k => rfl); (case g => rfl); (case x => rfl); (case d => rfl); (case e => rfl)))
local macro_rules | `(tactic| walk_at "eval Name") => `(tactic| (with_unfolding_all refine' ldB ?T ?F ?e ?v ?n ?_ ?k ?g ?b ?x ?d; (case T => assumption); (case F => assumption); (case k => rfl); (case g => rfl); (case b => rfl); (case x => rfl); (case d => rfl); (case e => rfl); (case v => boot_fast); (case n => decide)))
local macro_rules | `(tactic| walk_at "storeName") => `(tactic| (with_unfolding_all refine' stL ?F ?_ ?k ?l; (case F => assumption); (case k => rfl); (case l => rfl); intro h' F'))
local macro_rules | `(tactic| walk_at "callWith ref") => `(tactic| (with_unfolding_all refine' callWith_K (K := KK _) ?X ?k ?_; (case X => exact (Txt.k (by assumption))); (case k => rfl)))
local macro_rules | `(tactic| walk_at "callWith ref") => `(tactic| (with_unfolding_all refine' callWith_K0 (K := KK _) ?X ?k ?_; (case X => exact (Txt.keeps (by assumption) (Loc.st (by assumption))).k); (case k => rfl)))
local macro_rules | `(tactic| walk_at "And") => `(tactic| (refine ⟨(Txt.keeps (by assumption) (Loc.st (by assumption))).k, ?_⟩))
local macro_rules | `(tactic| walk_at "assign Tuple") => `(tactic| (refine' unpackL ?F ?hh ?ht ?hc ?hd ?hn ?hs ?_; (case F => assumption); (case hh => assumption); (case ht => assumption); (case hc => rfl); (case hd => rfl); (case hn => rfl); (case hs => rfl); intro h' F' k'))
local macro_rules | `(tactic| walk_at "tree") => `(tactic| first | (with_reducible show wpAny _ _ _ _ _ _) | (with_reducible show (if _ then _ else _)) | (with_reducible show Frag.In _ _ ∧ _))
local macro_rules | `(tactic| walk_at "mw") => `(tactic| repeat' (first | (walk_at "tree"; walk1) | (dsimp only; walk_at "tree"; walk1)))
local macro_rules | `(tactic| walk_at "newTuple") => `(tactic| (refine newTupleL (by assumption) (fun h' a' F' ka na Na oa => ?_)))
local macro_rules | `(tactic| walk_at "exec Assign") => `(tactic| (with_reducible refine plainObj_wpAny_Assign_Attribute ?_ ?_; rotate_left; with_unfolding_all rfl))
section
variable {M : Model} {A : Around} {E : Value → Shared → Prop} {s : Shared} {K : Frag} {x C f : Addr} {ox : Obj} {od : Option Obj}
theorem ownNext {Q : Option Value → Shared → Prop} (X : K.In s.heap) (I : InstAt s.heap x ox C od) (hs : findIn K (.ref C) (Str.ofString "__next__") = some (some (.ref f))) (hf : isFn K (.ref f) = true)
    (h : wpAny M A (call (.ref f) [.ref x]) (fun v s' => Q (some v) s') (OwitStop M A Q E) s) : wpAny M A (pyNext (.ref x)) Q E s := by
  unfold pyNext
  refine wpAny_bind (wpAny_attempt (special_fn (name := Str.ofString "__next__") (args := []) X I hs (beq_iff_eq.mp hf) (wpAny_mono h (fun v s' hq => ?_) (fun e s' he => ?_))))
  · exact wpAny_pure hq
  · refine wpAny_bind (wpAny_mono he (fun b s₂ hb => ?_) fun _ _ z => z)
    cases b with
    | true => exact wpAny_pure hb
    | false => exact wpAny_throw hb
/-- an iterator of a class of the text that is its own iterator -/
theorem ownIter {g : Addr} {Q : Value → Shared → Prop} (X : K.In s.heap) (I : InstAt s.heap x ox C od) (hs : findIn K (.ref C) (Str.ofString "__iter__") = some (some (.ref f))) (hf : isFn K (.ref f) = true)
    (hn : findIn K (.ref C) (Str.ofString "__next__") = some (some (.ref g)))
    (h : wpAny M A (call (.ref f) [.ref x]) (fun v s' => v = .ref x ∧ K.In s'.heap ∧ InstAt s'.heap x ox C od ∧ Q (.ref x) s') E s) : wpAny M A (pyIter (.ref x)) Q E s := by
  have fin : wpAny M A (call (.ref f) [.ref x] >>= fun v => pure (some v)) (fun r s' => r = some (.ref x) ∧ K.In s'.heap ∧ InstAt s'.heap x ox C od ∧ Q (.ref x) s') E s :=
    wpAny_bind (wpAny_mono h (fun v s' h' => wpAny_pure ⟨by rw [h'.1], h'.2⟩) fun _ _ z => z)
  have one : ∀ refuse : Sem Value, wpAny M A (callSpecialIfBoundUnlessNone? (.ref x) (Str.ofString "__iter__") refuse) (fun r s' => r = some (.ref x) ∧ K.In s'.heap ∧ InstAt s'.heap x ox C od ∧ Q (.ref x) s') E s := by
    intro refuse
    simp only [callSpecialIfBoundUnlessNone?, bindSpecialIfBound?]
    refine wpAny_holding (wpAny_bind (wpAny_bind (wpAny_bind (I.type.here ((looks_findIn X hs).here ?_)))))
    refine wpAny_bind (wpAny_askSetting (wpAny_ite ?_))
    have fin2 : wpAny M A (if (Value.ref f == Value.none) = true then (refuse >>= fun v => pure (some v)) else (call (.ref f) [.ref x] >>= fun v => pure (some v))) (fun r s' => r = some (.ref x) ∧ K.In s'.heap ∧ InstAt s'.heap x ox C od ∧ Q (.ref x) s') E s := by
      rw [if_neg (show ¬ ((Value.ref f == Value.none) = true) from Bool.false_ne_true)]
      exact fin
    split
    · exact wpAny_bind ((bind_fn X _ (beq_iff_eq.mp hf)).here (wpAny_pure (by exact fin2)))
    · exact wpAny_tryCatch (wpAny_bind ((bind_fn X _ (beq_iff_eq.mp hf)).here (wpAny_pure (by exact fin2))))
  unfold pyIter
  refine wpAny_bind (wpAny_bind (I.type.here ((looks_findIn X hs).here ?_)))
  show wpAny M A (callSpecialIfBoundUnlessNone? (.ref x) (Str.ofString "__iter__") _ >>= _) Q E s
  refine wpAny_bind (wpAny_mono (one _) (fun r s' hr => ?_) fun _ _ z => z)
  obtain ⟨rfl, X', I', hv⟩ := hr
  exact wpAny_bind (wpAny_bind (I'.type.here ((looks_findIn X' hn).here (wpAny_pure hv))))
end
section
variable {prog : Program} {w : World} {A : Around} {E : Value → Shared → Prop} {s : Shared}
theorem iter_spec {mg mb : Str → Option Value} {R : Result → Shared → Prop} {C : Addr} (T : Txt w mg mb s.heap) (hroom : A.depth < recursionLimit)
    (h : ∀ h' tk', s.heap.StaysIn h' → R (.ok (.ret (.ref C))) { s with heap := h', toks := tk' }) : codeAny (model prog w) A (.call (.ref 67) ⟨[.ref C], []⟩) R s := by
  refine enterP (binds := [(Str.ofString "self", .ref C)]) T hroom rfl rfl rfl rfl rfl (by decide) rfl rfl rfl rfl fun h₀ F => ?_
  try dsimp only
  walk_at "mw"
  exact h _ _ F.st
/-- the next of a generator that tells, ends or raises -/
theorem genNext {a : Addr} {g n : Nat} {gs : GenState} {P : Nat → Shared → Shared → Prop} {PE : Addr → Shared → Prop} {Y : Protocol} {Q : Option Value → Shared → Prop} (hh : A.handled = none)
    (hl : s.heap.NoLimit) (hroom : A.depth < recursionLimit) (hg : s.heap.IsGen a g) (hgs : s.gens[g]? = some gs)
    (hgo : gs.Goes (model prog w) A.in1 (fun n s₀ r s₁ => (r = .ok (.ret .none) ∧ P n s₀ s₁) ∨ ∃ e, r = .error (.ref e) ∧ PE e s₁) Y n (.send .none) (s.setGen g .running))
    (hY : ∀ v s₁ gs', gs'.bare = true → Y (n - 1) (s.setGen g .running) v s₁ (fun r' s'' => match n with
        | 0 => False
        | m + 1 => gs'.Goes (model prog w) A.in1 (fun n s₀ r s₁ => (r = .ok (.ret .none) ∧ P n s₀ s₁) ∨ ∃ e, r = .error (.ref e) ∧ PE e s₁) Y m r' s'') → Q (some v) (s₁.setGen g gs'))
    (hP : ∀ s₁, P n (s.setGen g .running) s₁ → ∀ h', (∀ b o, s₁.heap.get? b = some o → h'.get? b = some o) → Q none { s₁.setGen g .finished with heap := h' })
    (hPE : ∀ e s₁, PE e s₁ → (∃ X, s₁.TypeIs (.ref e) X ∧ isSubtype (.type X) (.type "StopIteration") = pure false) ∧ (∃ o, s₁.heap.get? a = some o) ∧ E (.ref e) (s₁.setGen g .finished)) :
    wpAny (model prog w) A (pyNext (.ref a)) Q E s := by
  unfold pyNext
  refine wpAny_bind (wpAny_attempt (wpAny_callSpecial?_slot (name := Str.ofString "__next__") hg.typeIs slot_gen_next
    (wpAny_call_entry slot_gen_next hg.typeIs entry_gen_next ?_ (args_gen_next _))))
  show wpAny _ A.in1 (Builtin.Generator.genWake (.ref a) (.send .none)) _ _ s
  unfold Builtin.Generator.genWake
  refine wpAny_bind (wpAny_holding (wpAny_genNumber hg (wpAny_bind (wpAny_genState hgs ?_))))
  cases gs with
  | running => exact hgo.elim
  | finished => exact hgo.elim
  | _ =>
    refine wpAny_bind (wpAny_roomToWake hl hroom ?_)
    show wpAny _ A.in1 (.resume g (.send .none) [] _) _ _ s
    refine wpAny_resumeQ hgs hgo (fun x s₁ hx => ?_) (fun v s₁ gs' hb hv => ?_)
    · rcases hx with ⟨rfl, hp⟩ | ⟨e, rfl, hp⟩
      · show wpAny _ A.in1 (newExc (.type "StopIteration") [] >>= _) _ _ _
        refine wpAny_bind ?_
        simp only [newExc, newTuple]
        refine wpAny_bind (wpAny_newObj_type ?_ (by size_fits))
        refine wpAny_bind (m := firstArgMember _ _) (wpAny_of_eq (a := Value.none) (by first | rfl | (simp only [firstArgMember]; rfl)) ?_)
        refine wpAny_newObj_type ?_ (by size_fits)
        simp only [raiseNew]
        refine wpAny_bind (wpAny_bind (wpAny_handled ?_))
        first | rw [show A.in1.handled = none from hh] | rw [hh]
        refine wpAny_throw ?_
        refine wpAny_bind (wpAny_isInstance (T := "StopIteration") (b := true) ⟨_, Heap.get?_push_size _ rfl, rfl⟩ isSubtype_stop ?_)
        exact wpAny_pure (hP s₁ hp _ fun b o hb => Heap.get?_push_of_some _ (Heap.get?_push_of_some _ hb))
      · obtain ⟨⟨X, hX, hsub⟩, ⟨o, ho⟩, hE⟩ := hPE e s₁ hp
        show wpAny _ A.in1 (Builtin.Generator.genLeft (.ref a) (.ref e)) _ _ _
        unfold Builtin.Generator.genLeft Builtin.Generator.madeByALambda Builtin.Generator.genEscaped
        have hX' : (s₁.setGen g .finished).TypeIs (.ref e) X := hX
        have ho' : (s₁.setGen g .finished).heap.get? a = some o := ho
        refine wpAny_bind (wpAny_bind (wpAny_load ho' (wpAny_pure ?_)))
        refine wpAny_bind (wpAny_isInstance hX' hsub ?_)
        simp only [Bool.and_false, Bool.false_eq_true, if_false]
        refine wpAny_bind (wpAny_isInstance hX' hsub ?_)
        simp only [Bool.not_false, if_true]
        refine wpAny_throw ?_
        refine wpAny_bind (wpAny_isInstance hX' hsub ?_)
        simp only [Bool.false_eq_true, if_false]
        exact wpAny_throw hE
    · exact wpAny_pure ⟨v, rfl, wpAny_pure (hY v s₁ gs' hb hv)⟩
end
end Mine
end
section
open PySem PySem.W PyProof.Rows PySem.Calls
set_option linter.unusedVariables false
namespace Mine
set_option maxRecDepth 100000
set_option maxHeartbeats 4000000
local macro_rules | `(tactic| walk_at "eval Name") => `(tactic| (with_unfolding_all refine' ldL ?F ?v ?_ ?k ?l ?d; (case F => assumption); (case k => rfl); (case l => rfl); (case d => rfl); (case v => first | assumption | rfl)))
local macro_rules | `(tactic| walk_at "eval Name") => `(tactic| (with_unfolding_all refine' ldG ?T ?F ?e ?_ ?k ?g ?x ?d; (case T => assumption); (case F => assumption); (case k => rfl); (case g => rfl); (case x => rfl); (case d => rfl); (case e => rfl)))
local macro_rules | `(tactic| walk_at "eval Name") => `(tactic| (with_unfolding_all refine' ldB ?T ?F ?e ?v ?n ?_ ?k ?g ?b ?x ?d; (case T => assumption); (case F => assumption); (case k => rfl); (case g => rfl); (case b => rfl); (case x => rfl); (case d => rfl); (case e => rfl); (case v => boot_fast); (case n => decide)))
local macro_rules | `(tactic| walk_at "storeName") => `(tactic| (with_unfolding_all refine' stL ?F ?_ ?k ?l; (case F => assumption); (case k => rfl); (case l => rfl); intro h' F'))
local macro_rules | `(tactic| walk_at "callWith ref") => `(tactic| (with_unfolding_all refine' callWith_K (K := KK _) ?X ?k ?_; (case X => exact (Txt.k (by assumption))); (case k => rfl)))
local macro_rules | `(tactic| walk_at "callWith ref") => `(tactic| (with_unfolding_all refine' callWith_K0 (K := KK _) ?X ?k ?_; (case X => exact (Txt.keeps (by assumption) (Loc.st (by assumption))).k); (case k => rfl)))
local macro_rules | `(tactic| walk_at "And") => `(tactic| (refine ⟨(Txt.keeps (by assumption) (Loc.st (by assumption))).k, ?_⟩))
local macro_rules | `(tactic| walk_at "assign Tuple") => `(tactic| (refine' unpackL ?F ?hh ?ht ?hc ?hd ?hn ?hs ?_; (case F => assumption); (case hh => assumption); (case ht => assumption); (case hc => rfl); (case hd => rfl); (case hn => rfl); (case hs => rfl); intro h' F' k'))
local macro_rules | `(tactic| walk_at "tree") => `(tactic| first | (with_reducible show wpAny _ _ _ _ _ _) | (with_reducible show (if _ then _ else _)) | (with_reducible show Frag.In _ _ ∧ _))
local macro_rules | `(tactic| walk_at "mw") => `(tactic| repeat' (first | (walk_at "tree"; walk1) | (dsimp only; walk_at "tree"; walk1)))
local macro_rules | `(tactic| walk_at "newTuple") => `(tactic| (refine newTupleL (by assumption) (fun h' a' F' ka na Na oa => ?_)))
local macro_rules | `(tactic| walk_at "exec Assign") => `(tactic| (with_reducible refine plainObj_wpAny_Assign_Attribute ?_ ?_; rotate_left; with_unfolding_all rfl))
abbrev lstObj (vs : List Value) (c : Nat) : Obj := { cls := .type "list", dict := none, data := .seq vs.toArray c, slots := #[] }
section
variable {prog : Program} {w : World} {A : Around} {s : Shared} {R : Result → Shared → Prop} {S I : Addr} {n : Nat} {St : Nat → List Value → Shared → Prop}
/-- a walk of a generator's for a list: what holds of the state ahead of each turn, all but the list itself kept by list's own doings -/
structure Draws (prog : Program) (w : World) (A : Around) (S I : Addr) (n : Nat) (St : Nat → List Value → Shared → Prop) (Fin : List Value → Shared → Prop) (Er : Value → Shared → Prop) : Prop where
  type : ∀ i vs s, St i vs s → s.TypeIs (.ref I) "generator"
  self : ∀ i vs s (Q : Value → Shared → Prop) (E : Value → Shared → Prop), St i vs s → Q (.ref I) s → wpAny (model prog w) A (pyIter (.ref I)) Q E s
  frame : ∀ i vs s h' tk, St i vs s → (∀ b o, b ≠ S → s.heap.get? b = some o → h'.get? b = some o) → St i vs { s with heap := h', toks := tk }
  step : ∀ i vs s c (Q : Option Value → Shared → Prop) (E : Value → Shared → Prop), i ≤ n → vs.length = i → St i vs s → s.heap.get? S = some (lstObj vs c) →
    (∀ v s', i < n → St (i + 1) (vs ++ [v]) s' → s'.heap.get? S = some (lstObj vs c) → Q (some v) s') → (∀ s', Fin vs s' → s'.heap.get? S = some (lstObj vs c) → Q none s') → (∀ e s', Er e s' → E e s') →
    wpAny (model prog w) A (pyNext (.ref I)) Q E s
theorem drawsLoop {Fin : List Value → Shared → Prop} {Er : Value → Shared → Prop} (W : Draws prog w A.in1 S I n St Fin Er) (hn : n ≤ sizeLine) (res : Value) :
    ∀ (k i : Nat) (s : Shared) (vs : List Value) (c : Nat), n - i = k → i ≤ n → vs.length = i → St i vs s → s.heap.get? S = some (lstObj vs c) →
      (∀ s' vs' c', Fin vs' s' → s'.heap.get? S = some (lstObj vs' c') → R (.ok (.ret res)) s') → (∀ e s', Er e s' → R (.error e) s') →
      codeAny (model prog w) A (.builtin "list.extend.loop" ⟨[.ref S, .ref I, res], []⟩) R s := by
  intro k
  induction k with
  | zero =>
    intro i s vs c hk hi hl hst hS hR hE
    refine codeAny_builtin F.entry_extend_loop ?_
    rw [Around.under_plainId F.plain_extend_loop _]
    show wpAny _ A.in1 (pyNext (.ref I) >>= _) _ _ s
    refine wpAny_bind (W.step i vs s c _ _ hi hl hst hS (fun v s' hlt _ _ => absurd hlt (by omega)) (fun s' hf hS' => ?_) hE)
    exact wpAny_pure (hR s' vs c hf hS')
  | succ k ih =>
    intro i s vs c hk hi hl hst hS hR hE
    refine codeAny_builtin F.entry_extend_loop ?_
    rw [Around.under_plainId F.plain_extend_loop _]
    show wpAny _ A.in1 (pyNext (.ref I) >>= _) _ _ s
    refine wpAny_bind (W.step i vs s c _ _ hi hl hst hS (fun v s' hlt hst' hS' => ?_) (fun s' hf hS' => wpAny_pure (hR s' vs c hf hS')) hE)
    show wpAny _ A.in1 (updateSeq S (·.push v) >>= _) _ _ _
    obtain ⟨c', e'⟩ : ∃ c', (s'.heap.update S (Obj.mapSeq (·.push v))).get? S = some (lstObj (vs ++ [v]) c') := by
      rw [Heap.get?_update_self (Obj.mapSeq (·.push v)) hS' rfl, show lstObj (vs ++ [v]) = fun c => ({ cls := .type "list", dict := none, data := .seq (vs.toArray.push v) c, slots := #[] } : Obj) from by funext c; rw [List.push_toArray]]
      exact ⟨_, rfl⟩
    refine wpAny_bind (wpAny_updateSeq hS' rfl (wpAny_pure ⟨plainId_quiet F.plain_extend_loop _, ih (i + 1) _ (vs ++ [v]) c' (by omega) hlt (by rw [List.length_append, hl]; rfl) (W.frame _ _ s' _ s'.toks hst' fun b o hb e => ?_) e' hR hE⟩)
      (by rw [List.size_toArray, hl]; omega) (by show (vs.toArray.push v).size ≤ sizeLine + 1; rw [Array.size_push, List.size_toArray, hl]; omega))
    exact (Heap.get?_update_other _ _ (fun h : S = b => hb h.symm)).trans e
theorem drawsExtend {Fin : List Value → Shared → Prop} {Er : Value → Shared → Prop} (W : Draws prog w A.in1 S I n St Fin Er) (hn : n ≤ sizeLine) (res : Value) (c₀ : Nat) (hst : St 0 [] s) (hSI : S ≠ I) (hS : s.heap.get? S = some (lstObj [] c₀))
    (hR : ∀ s' vs' c', Fin vs' s' → s'.heap.get? S = some (lstObj vs' c') → R (.ok (.ret res)) s') (hE : ∀ e s', Er e s' → R (.error e) s') :
    wpAny (model prog w) A.in1 (Builtin.List.listExtendWith (.ref S) (.ref I) res)
      (fun fin s' => match fin with | .done f => R (.ok f) s' | .again c' => c'.quiet = true ∧ codeAny (model prog w) A c' R s') (fun e s' => R (.error e) s') s := by
  unfold Builtin.List.listExtendWith
  refine wpAny_bind (wpAny_typeOf (W.type 0 _ _ hst) ?_)
  have h1 : Builtin.List.listSameRef (.ref S) (.ref I) = false := by simp [Builtin.List.listSameRef, hSI]
  have h2 : (Value.type "generator" == Value.type "list") = false := by decide
  have h3 : (Value.type "generator" == Value.type "tuple") = false := by decide
  simp only [h1, h2, h3, Bool.or_false, Bool.false_eq_true, if_false]
  refine wpAny_bind (W.self 0 _ _ _ _ hst ?_)
  refine wpAny_bind (wpAny_holding ?_)
  unfold Builtin.List.listLengthHint
  refine wpAny_bind (wpAny_specialOf (W.type 0 _ _ hst) F.gen_no_len ?_)
  show wpAny _ A.in1 (specialOf (Value.ref I) (Str.ofString "__length_hint__") >>= _) _ _ _
  refine wpAny_bind (wpAny_specialOf (W.type 0 _ _ hst) F.gen_no_hint ?_)
  refine wpAny_pure ?_
  show wpAny _ A.in1 (rule "list.extend.makes-room" >>= fun _ => Builtin.List.listTouch (.ref S) >>= fun _ =>
    again (.builtin "list.extend.loop" ⟨[.ref S, .ref I, res], []⟩)) _ _ _
  refine wpAny_bind (wpAny_rule ?_)
  refine wpAny_bind ?_
  show wpAny _ A.in1 (updateSeq S (·.push .none) >>= fun _ => updateSeq S (·.pop)) _ _ _
  refine wpAny_bind (wpAny_updateSeq hS rfl ?_)
  have hS₂ := Heap.get?_update_self (Obj.mapSeq (·.push Value.none)) hS rfl
  refine wpAny_updateSeq (hz := by seq_fits) hS₂ rfl ?_
  have hS₃ := Heap.get?_update_self (Obj.mapSeq (·.pop)) hS₂ rfl
  have oth : ∀ b o, b ≠ S → s.heap.get? b = some o → ((s.heap.update S (Obj.mapSeq (·.push Value.none))).update S (Obj.mapSeq (·.pop))).get? b = some o :=
    fun b o hb e => (Heap.get?_update_other _ _ (Ne.symm hb)).trans ((Heap.get?_update_other _ _ (Ne.symm hb)).trans e)
  exact wpAny_pure ⟨plainId_quiet F.plain_extend_loop _, drawsLoop W hn res n 0 _ [] _ rfl (Nat.zero_le _) rfl (W.frame 0 _ s _ s.toks hst oth) hS₃ hR hE⟩
theorem drawsInit {Fin : List Value → Shared → Prop} {Er : Value → Shared → Prop} (W : Draws prog w A.in1 S I n St Fin Er) (hn : n ≤ sizeLine) (hst : St 0 [] s) (hSI : S ≠ I) (hS : s.heap.get? S = some { cls := .type "list", data := .seq #[] })
    (hR : ∀ s' vs' c', Fin vs' s' → s'.heap.get? S = some (lstObj vs' c') → R (.ok (.ret .none)) s') (hE : ∀ e s', Er e s' → R (.error e) s') :
    wpAny (model prog w) A.in1 (Builtin.«list.__init__» ⟨[.ref S, .ref I], []⟩)
      (fun fin s' => match fin with | .done f => R (.ok f) s' | .again c' => c'.quiet = true ∧ codeAny (model prog w) A c' R s') (fun e s' => R (.error e) s') s := by
  show wpAny _ A.in1 (do let old ← Builtin.List.listItems (.ref S); Builtin.List.listUpdate (.ref S) (fun _ => #[]); letGo old.toList.reverse; Builtin.List.listExtendWith (.ref S) (.ref I) .none) _ _ s
  refine wpAny_bind ?_
  unfold Builtin.List.listItems
  refine wpAny_bind (wpAny_seqItems hS rfl (wpAny_pure ?_))
  show wpAny _ A.in1 (updateSeq S (fun _ => #[]) >>= fun _ => letGo (#[] : Array Value).toList.reverse >>= fun _ => Builtin.List.listExtendWith (.ref S) (.ref I) .none) _ _ s
  refine wpAny_bind (wpAny_updateSeq hS rfl ?_)
  have hS₂ := Heap.get?_update_self (Obj.mapSeq (fun _ => (#[] : Array Value))) hS rfl
  refine wpAny_bind (wpAny_letGo ?_)
  exact drawsExtend W hn .none _ (W.frame 0 _ s _ s.toks hst fun b o hb e => (Heap.get?_update_other _ _ (Ne.symm hb)).trans e) hSI hS₂ hR hE
end
section
variable {prog : Program} {w : World} {A : Around} {E : Value → Shared → Prop} {s : Shared} {I : Addr} {n : Nat} {St : Nat → List Value → Shared → Prop}
theorem listDraws {Q : Value → Shared → Prop} {Fin : List Value → Shared → Prop} {Er : Value → Shared → Prop} (W : Draws prog w A.in1.in1 s.heap.objs.size I n St Fin Er) (hn : n ≤ sizeLine) (hI : I < s.heap.objs.size)
    (hst : St 0 [] { s with heap := s.heap.push { cls := .type "list", data := .seq #[] } })
    (hQ : ∀ s' vs' c', Fin vs' s' → s'.heap.get? s.heap.objs.size = some (lstObj vs' c') → Q (.ref s.heap.objs.size) s') (hE : ∀ e s', Er e s' → E e s') :
    wpAny (model prog w) A (call (.type "list") [.ref I]) Q E s := by
  refine callType_codes (Q₁ := fun obj s₁ => obj = .ref s.heap.objs.size ∧ s₁ = { s with heap := s.heap.push { cls := .type "list", data := .seq #[] } }) F.called_list (F.typeCall_list_1 _) F.entry_list_init
    (code_list_new _ ⟨rfl, rfl⟩) fun obj s₁ h₁ => ?_
  obtain ⟨rfl, rfl⟩ := h₁
  have hS : (s.heap.push { cls := .type "list", data := .seq #[] }).get? s.heap.objs.size = some { cls := .type "list", data := .seq #[] } := Heap.get?_push_size _ rfl
  exact ⟨⟨_, hS, rfl⟩, F.args_list_init_2 _ _, drawsInit W hn hst (Nat.ne_of_gt hI) hS (fun s' vs' c' hf hS' => ⟨rfl, hQ s' vs' c' hf hS'⟩) hE⟩
end
end Mine
end
section
open PySem PySem.W PyProof.Rows PySem.Calls
set_option linter.unusedVariables false
namespace Mine
set_option maxRecDepth 100000
set_option maxHeartbeats 4000000
local macro_rules | `(tactic| walk_at "eval Name") => `(tactic| (with_unfolding_all refine' ldL ?F ?v ?_ ?k ?l ?d; (case F => assumption); (case k => rfl); (case l => rfl); (case d => rfl); (case v => first | assumption | rfl)))
local macro_rules | `(tactic| walk_at "eval Name") => `(tactic| (with_unfolding_all refine' ldG ?T ?F ?e ?_ ?k ?g ?x ?d; (case T => assumption); (case F => assumption); (case k => rfl); (case g => rfl); (case x => rfl); (case d => rfl); (case e => rfl)))
local macro_rules | `(tactic| walk_at "eval Name") => `(tactic| (with_unfolding_all refine' ldB ?T ?F ?e ?v ?n ?_ ?k ?g ?b ?x ?d; (case T => assumption); (case F => assumption); (case k => rfl); (case g => rfl); (case b => rfl); (case x => rfl); (case d => rfl); (case e => rfl); (case v => boot_fast); (case n => decide)))
local macro_rules | `(tactic| walk_at "storeName") => `(tactic| (with_unfolding_all refine' stL ?F ?_ ?k ?l; (case F => assumption); (case k => rfl); (case l => rfl); intro h' F'))
local macro_rules | `(tactic| walk_at "callWith ref") => `(tactic| (with_unfolding_all refine' callWith_K (K := KK _) ?X ?k ?_; (case X => exact (Txt.k (by assumption))); (case k => rfl)))
local macro_rules | `(tactic| walk_at "callWith ref") => `(tactic| (with_unfolding_all refine' callWith_K0 (K := KK _) ?X ?k ?_; (case X => exact (Txt.keeps (by assumption) (Loc.st (by assumption))).k); (case k => rfl)))
local macro_rules | `(tactic| walk_at "And") => `(tactic| (refine ⟨(Txt.keeps (by assumption) (Loc.st (by assumption))).k, ?_⟩))
local macro_rules | `(tactic| walk_at "assign Tuple") => `(tactic| (refine' unpackL ?F ?hh ?ht ?hc ?hd ?hn ?hs ?_; (case F => assumption); (case hh => assumption); (case ht => assumption); (case hc => rfl); (case hd => rfl); (case hn => rfl); (case hs => rfl); intro h' F' k'))
local macro_rules | `(tactic| walk_at "tree") => `(tactic| first | (with_reducible show wpAny _ _ _ _ _ _) | (with_reducible show (if _ then _ else _)) | (with_reducible show Frag.In _ _ ∧ _))
local macro_rules | `(tactic| walk_at "mw") => `(tactic| repeat' (first | (walk_at "tree"; walk1) | (dsimp only; walk_at "tree"; walk1)))
local macro_rules | `(tactic| walk_at "newTuple") => `(tactic| (refine newTupleL (by assumption) (fun h' a' F' ka na Na oa => ?_)))
local macro_rules | `(tactic| walk_at "exec Assign") => `(tactic| (with_reducible refine plainObj_wpAny_Assign_Attribute ?_ ?_; rotate_left; with_unfolding_all rfl))
theorem sub_gen_set : isSubtype (.type "generator") (.type "set") = pure false := by rw [isSubtype_type]; kernel_rfl
theorem sub_gen_frozenset : isSubtype (.type "generator") (.type "frozenset") = pure false := by rw [isSubtype_type]; kernel_rfl
abbrev newSetObj (led : Bool) : Obj := { cls := .type "set", dict := none, data := .set #[] 0 (.fresh 0 0 led) }
section
variable {prog : Program} {w : World} {A : Around} {E : Value → Shared → Prop} {s : Shared} {I : Addr} {fp wr : List Addr} {G : Array GenState → Array GenState → Prop} {n : Nat} {P : Nat → Value → Prop} {St : Nat → Shared → Prop}
/-- a class called, its two steps as codes -/
theorem typeCodes {T newId initId : String} {args : List Value} {Q Q₁ : Value → Shared → Prop} (ft : TypeCalled T newId initId) (hct : checkTypeCall T ⟨args, []⟩ = pure ())
    (hnew : codeAny (model prog w) A.in1 (.call (.builtin newId) ⟨.type T :: args, []⟩) (wants Q₁ E) s)
    (hnext : ∀ obj s₁, Q₁ obj s₁ → s₁.TypeIs obj T ∧ codeAny (model prog w) A.in1 (.call (.builtin initId) ⟨obj :: args, []⟩) (wants (fun r s₂ => r = .none ∧ Q obj s₂) E) s₁) :
    wpAny (model prog w) A (call (.type T) args) Q E s := by
  obtain ⟨c, tl, hmro⟩ := ft.mro
  have hmade := ft.made
  have hsub := ft.sub
  refine wpAny_call (codeAny_of_tree ?_)
  show wpAny _ _ (callAny (.type T) _) _ _ _
  refine wpAny_pure ⟨Code.quiet_builtin _ (by decide +kernel), codeAny_builtin F.entry_type_call ?_⟩
  rw [Around.under_plain (weight_type_call_type T args []) rfl]
  have h1 := ft.notType
  have h2 := ft.canCreate
  repeat (any_goals (first | assumption | wp_step))
  refine codeAny_mono hnew fun r s₁ hr => ?_
  cases r with
  | error e => exact hr
  | ok fl =>
    cases fl with
    | ret obj =>
      obtain ⟨hT, hgo⟩ := hnext _ _ hr
      have hli := ft.init.lookup
      have hbi := ft.init.bind obj
      repeat (any_goals (first | assumption | wp_step))
      refine codeAny_mono hgo fun r₂ s₂ hr₂ => ?_
      cases r₂ with
      | error e => exact hr₂
      | ok fl₂ =>
        cases fl₂ with
        | ret r =>
          obtain ⟨rfl, hq⟩ := hr₂
          repeat (any_goals (first | assumption | wp_step))
        | _ => exact hr₂.elim
    | _ => exact hr.elim
theorem setOfGen {Q : Value → Shared → Prop} (W : WalksS prog w A.in4 I fp wr G n P St) (hT : ∀ i s, St i s → s.TypeIs (.ref I) "generator") (hst : St 0 s) (hfp : ∀ b ∈ fp, b < s.heap.objs.size) (hI : I ∈ fp)
    (val : Nat → Int) (hval : ∀ i v, P i v → ∃ t, v = .int (val i) t) (hb : n + 1 < scanBound)
    (h : ∀ led s', Moved (s.heap.objs.size :: wr) G { s with heap := s.heap.push (newSetObj led) } s' →
      s'.heap.SetOf (intKind prog w) s.heap.objs.size (fun k' => (firstMet val n).any (· == k')) (firstMet val n).length → Q (.ref s.heap.objs.size) s') :
    wpAny (model prog w) A (call (.type "set") [.ref I]) Q E s := by
  refine typeCodes (Q₁ := fun obj s₁ => ∃ led : Bool, obj = .ref s.heap.objs.size ∧ s₁ = { s with heap := s.heap.push (newSetObj led) }) F.called_set (F.typeCall_set_1 (.ref I)) (code_set_new_1 (.ref I) fun led => ⟨led, rfl, rfl⟩) fun obj s₁ hr => ?_
  obtain ⟨led, rfl, rfl⟩ := hr
  have hS : (s.heap.push (newSetObj led)).get? s.heap.objs.size = some (newSetObj led) := Heap.get?_push_size _ rfl
  have hTs : Shared.TypeIs { s with heap := s.heap.push (newSetObj led) } (.ref s.heap.objs.size) "set" := ⟨_, hS, rfl⟩
  refine ⟨hTs, codeAny_mono (codeAny_call_builtin (R := wants (fun r s₂ => r = .none ∧ Moved (s.heap.objs.size :: wr) G { s with heap := s.heap.push (newSetObj led) } s₂ ∧
          s₂.heap.SetOf (intKind prog w) s.heap.objs.size (fun k' => (firstMet val n).any (· == k')) (firstMet val n).length) E) F.called_set.init.plain F.entry_set_init (check_set_init_1 hTs ?_)) fun r₂ s₂ hr₂ => ?_⟩
  · have hst' : St 0 { s with heap := s.heap.push (newSetObj led) } := W.frame 0 s _ s.toks hst (Nat.le_refl _) fun b _ o e => Heap.get?_push_of_some _ e
    have hTg := hT 0 _ hst'
    have hsls := sub_gen_set
    have hslf := sub_gen_frozenset
    have hne : (Value.type "generator" == Value.type "dict") = false := by decide
    unfold Builtin.«set.__init__» noKeywords Builtin.Frozenset.updateFrom
    generalize hPI : pyIter = PI
    wp_walk
    subst hPI
    refine (WalksS.in4_2 W).self 0 _ _ _ hst' ?_
    refine wpAny_bind (wpAny_runValue ?_)
    have hSf : s.heap.objs.size ∉ fp := fun hm => Nat.lt_irrefl _ (hfp _ hm)
    refine codeAny_set_update_loopS (A := A.in1.in1) (WalksS.of_in1 (A := A.in1.in1.in1) W) s.heap.objs.size hSf val hval hb (n - 0) 0 _ rfl (Nat.zero_le _) hst'
      (SetOf_congr ((setObjOf_fresh (knd := intKind prog w) led).setOf hS (by unfold scanBound; omega)) (fun _ => rfl) rfl) fun s' hm hS' => ?_
    refine wpAny_pure ?_
    show wpAny _ _ (ret Value.none) _ _ _
    exact wpAny_pure ⟨rfl, hm, hS'⟩
  · cases r₂ with
    | error e => exact hr₂
    | ok fl₂ =>
      cases fl₂ with
      | ret r =>
        obtain ⟨rfl, hm', hS'⟩ := hr₂
        exact ⟨rfl, h _ _ hm' hS'⟩
      | _ => exact hr₂.elim
end
end Mine
end
section
open PySem PySem.W PyProof.Rows PySem.Calls
set_option linter.unusedVariables false
namespace Mine
set_option maxRecDepth 100000
set_option maxHeartbeats 4000000
local macro_rules | `(tactic| walk_at "eval Name") => `(tactic| (with_unfolding_all refine' ldL ?F ?v ?_ ?k ?l ?d; (case F => assumption); (case k => rfl); (case l => rfl); (case d => rfl); (case v => first | assumption | rfl)))
local macro_rules | `(tactic| walk_at "eval Name") => `(tactic| (with_unfolding_all refine' ldG ?T ?F ?e ?_ ?k ?g ?x ?d; (case T => assumption); (case F => assumption); (case k => rfl); (case g => rfl); (case x => rfl); (case d => rfl); (case e => rfl)))
local macro_rules | `(tactic| walk_at "eval Name") => `(tactic| (with_unfolding_all refine' ldB ?T ?F ?e ?v ?n ?_ ?k ?g ?b ?x ?d; (case T => assumption); (case F => assumption); (case k => rfl); (case g => rfl); (case b => rfl); (case x => rfl); (case d => rfl); (case e => rfl); (case v => boot_fast); (case n => decide)))
local macro_rules | `(tactic| walk_at "storeName") => `(tactic| (with_unfolding_all refine' stL ?F ?_ ?k ?l; (case F => assumption); (case k => rfl); (case l => rfl); intro h' F'))
local macro_rules | `(tactic| walk_at "callWith ref") => `(tactic| (with_unfolding_all refine' callWith_K (K := KK _) ?X ?k ?_; (case X => exact (Txt.k (by assumption))); (case k => rfl)))
local macro_rules | `(tactic| walk_at "callWith ref") => `(tactic| (with_unfolding_all refine' callWith_K0 (K := KK _) ?X ?k ?_; (case X => exact (Txt.keeps (by assumption) (Loc.st (by assumption))).k); (case k => rfl)))
local macro_rules | `(tactic| walk_at "And") => `(tactic| (refine ⟨(Txt.keeps (by assumption) (Loc.st (by assumption))).k, ?_⟩))
local macro_rules | `(tactic| walk_at "assign Tuple") => `(tactic| (refine' unpackL ?F ?hh ?ht ?hc ?hd ?hn ?hs ?_; (case F => assumption); (case hh => assumption); (case ht => assumption); (case hc => rfl); (case hd => rfl); (case hn => rfl); (case hs => rfl); intro h' F' k'))
local macro_rules | `(tactic| walk_at "tree") => `(tactic| first | (with_reducible show wpAny _ _ _ _ _ _) | (with_reducible show (if _ then _ else _)) | (with_reducible show Frag.In _ _ ∧ _))
local macro_rules | `(tactic| walk_at "mw") => `(tactic| repeat' (first | (walk_at "tree"; walk1) | (dsimp only; walk_at "tree"; walk1)))
local macro_rules | `(tactic| walk_at "newTuple") => `(tactic| (refine newTupleL (by assumption) (fun h' a' F' ka na Na oa => ?_)))
local macro_rules | `(tactic| walk_at "exec Assign") => `(tactic| (with_reducible refine plainObj_wpAny_Assign_Attribute ?_ ?_; rotate_left; with_unfolding_all rfl))
theorem eraseIdx_perm {α : Type} {l : List α} {i : Nat} (h : i < l.length) : List.Perm (l[i] :: l.eraseIdx i) l := by
  have e : l.take i ++ l[i] :: l.drop (i + 1) = l := by rw [← List.drop_eq_getElem_cons h, List.take_append_drop]
  rw [List.eraseIdx_eq_take_drop_succ]
  exact (List.perm_middle (l₁ := l.take i) (a := l[i]) (l₂ := l.drop (i + 1))).symm.trans (by rw [e])
theorem pickGo {α : Type} (next : Nat → Nat) : ∀ (fuel k : Nat) (left : List α) (out : Array α), left.length = fuel → List.Perm (pickOrder.go next fuel k left out).toList (out.toList ++ left)
  | 0, k, left, out, h => by
    rw [List.length_eq_zero_iff.mp h, List.append_nil]; exact List.Perm.refl _
  | fuel + 1, k, left, out, h => by
    unfold pickOrder.go
    have hlt : next k % left.length < left.length := Nat.mod_lt _ (by omega)
    rw [List.getElem?_eq_getElem hlt]
    dsimp only
    refine (pickGo next fuel (k + 1) _ _ (by rw [List.length_eraseIdx_of_lt hlt]; omega)).trans ?_
    rw [Array.toList_push, List.append_assoc]
    refine List.Perm.append_left _ ?_
    exact eraseIdx_perm hlt
theorem pickPerm {α : Type} (next : Nat → Nat) (xs : Array α) : List.Perm (pickOrder next xs).toList xs.toList := by
  unfold pickOrder
  exact (pickGo next xs.size 0 xs.toList #[] (by simp)).trans (by simp)

section
variable {prog : Program} {w : World} {A : Around} {E : Value → Shared → Prop} {s : Shared} {a : Addr}
theorem askText {Q : Bool → Shared → Prop} (h : Q (w.params.followText "set-order") s) : wpAny (model prog w) A setsByText Q E s := by
  unfold setsByText
  exact wpAny_bind (wpAny_askSetting (wpAny_pure h))
/-- ints ask nobody -/
theorem quietInts {sets : List Addr} {Q : Bool → Shared → Prop} (hs : ∀ b ∈ sets, ∃ S n, s.heap.SetOf (intKind prog w) b S n) (h : Q true s) : wpAny (model prog w) A (setsQuiet sets) Q E s := by
  unfold setsQuiet
  refine wpAny_bind (wpAny_forIn_list _ (fun rest b s' => b = (none, ()) ∧ s' = s ∧ ∀ x ∈ rest, ∃ S n, s.heap.SetOf (intKind prog w) x S n) _ ?_ ?_ sets (none, ()) ⟨rfl, rfl, hs⟩)
  · rintro x rest b s' ⟨rfl, rfl, hr⟩
    obtain ⟨S, n, o, es, ep, t, ho, _, hd, hel, hmem, hb, hf, _⟩ := hr x (.head _)
    refine wpAny_bind (wpAny_setEntries_of ho hd hf ?_)
    have e : ∀ (f : (Int × Value) → (Option Bool × Unit) → Sem (ForInStep (Option Bool × Unit))), (∀ x ∈ es.toList, ∀ c, f x c = pure (.yield (none, ()))) → wpAny (model prog w) A (forIn es (none, ()) f) (fun r s'' => r = (none, ()) ∧ s'' = s') E s' := by
      intro f hf'
      refine MeetsSeq2.wpAny_forIn_array f (fun rest b s'' => b = (none, ()) ∧ s'' = s' ∧ ∀ x ∈ rest, x ∈ es.toList) _ ?_ ?_ es _ ⟨rfl, rfl, fun _ h => h⟩
      · rintro y rest b s'' ⟨rfl, rfl, hin⟩
        rw [hf' y (hin y (.head _))]
        exact wpAny_pure ⟨rfl, rfl, fun z hz => hin z (.tail _ hz)⟩
      · rintro b s'' ⟨rfl, rfl, _⟩
        exact ⟨rfl, rfl⟩
    refine wpAny_bind (wpAny_mono (e _ ?_) ?_ fun _ _ z => z)
    · rintro ⟨h0, y⟩ hy c
      obtain ⟨⟨k, hk, _⟩, _⟩ := hel _ hy
      obtain ⟨t, rfl⟩ : ∃ t, y = .int k t := Value.isInt_shape hk
      rfl
    · rintro r s'' ⟨rfl, rfl⟩
      exact wpAny_pure ⟨rfl, rfl, fun z hz => hr z (.tail _ hz)⟩
  · rintro b s' ⟨rfl, rfl, _⟩
    exact wpAny_pure h
/-- what a walk over a set of ints meets: its elements, in whatever order -/
def Meets1 (prog : Program) (w : World) (S : Int → Bool) (es : Array (Int × Value)) : Prop := ElemsOf (intKind prog w) es.toList ∧ ∀ k, S k = true ↔ ∃ e ∈ es.toList, (intKind prog w).is k e.2 = true
theorem Meets1.perm {S : Int → Bool} {es es' : Array (Int × Value)} (x : Meets1 prog w S es) (p : List.Perm es'.toList es.toList) : Meets1 prog w S es' :=
  ⟨x.1.perm p, fun k => (x.2 k).trans ⟨fun ⟨e, he, q⟩ => ⟨e, p.mem_iff.mpr he, q⟩, fun ⟨e, he, q⟩ => ⟨e, p.mem_iff.mp he, q⟩⟩⟩
theorem walkPlain {S : Int → Bool} {o : Obj} {es : Array (Int × Value)} {ep : Nat} {t : SetTable} {Q : Array (Int × Value) → Shared → Prop} (ho : s.heap.get? a = some o) (hd : o.data = .set es ep t) (hf : t.fits es.size = true)
    (hel : Meets1 prog w S es) (hw : w.params.followText "set-order" = true ∨ (t.led && t.plain) = true ∨ es.size ≤ 1) (h : ∀ es', Meets1 prog w S es' → Q es' s) : wpAny (model prog w) A (setWalk a) Q E s := by
  unfold setWalk
  refine wpAny_bind (wpAny_setState_of ho hd hf ?_)
  dsimp only
  refine wpAny_bind (askText ?_)
  cases hbt : w.params.followText "set-order" with
  | true =>
    simp only [if_true]
    exact wpAny_bind (wpAny_askSetting (wpAny_pure (h _ (hel.perm (pickPerm _ _)))))
  | false =>
    simp only [Bool.false_eq_true, if_false]
    split
    · rename_i hdr
      have hdr' : (!t.plain && decide (es.size > 1)) = true := hdr
      rcases (hw.resolve_left (by rw [hbt]; decide)) with q | q
      · simp only [Bool.and_eq_true] at q; simp [q.2] at hdr'
      · simp only [Bool.and_eq_true, decide_eq_true_eq] at hdr'; omega
    · show wpAny _ _ ((if (!t.led && decide (es.size > 1)) = true then unsupported "set:maker-not-led" else pure ()) >>= _) _ _ _
      have : ¬ (!t.led && decide (es.size > 1)) = true := by
        rcases (hw.resolve_left (by rw [hbt]; decide)) with q | q
        · simp only [Bool.and_eq_true] at q; simp [q.1]
        · simp only [Bool.and_eq_true, decide_eq_true_eq]; omega
      rw [if_neg this]
      exact wpAny_bind (wpAny_pure (wpAny_pure (h _ hel)))
theorem walkUnseen {S S' : Int → Bool} {n n' : Nat} {others : List Addr} {r : Addr} {Q : Array (Int × Value) → Shared → Prop} (hS : s.heap.SetOf (intKind prog w) a S n) (ho : ∀ b ∈ others, ∃ S n, s.heap.SetOf (intKind prog w) b S n)
    (hr : s.heap.SetOf (intKind prog w) r S' n') (h : ∀ es' h', Meets1 prog w S es' → Heap.SameBut r s.heap h' → h'.SetOf (intKind prog w) r S' n' → Q es' { s with heap := h' }) :
    wpAny (model prog w) A (setWalkUnseen a others (some r)) Q E s := by
  obtain ⟨o, es, ep, t, ho', hex, hd, hel, hmem, hb, hf, hn⟩ := id hS
  have M1 : Meets1 prog w S es := ⟨hel, hmem⟩
  unfold setWalkUnseen
  refine wpAny_bind (wpAny_setState_of ho' hd hf ?_)
  dsimp only
  refine wpAny_bind (askText ?_)
  refine wpAny_ite_split (fun hc => ?_) (fun hc => ?_)
  · refine walkPlain ho' hd hf M1 ?_ fun es' hes' => h es' s.heap hes' (Heap.SameBut.refl ..) hr
    simp only [Bool.or_eq_true, decide_eq_true_eq] at hc
    rcases hc with (hc | hc) | hc
    · exact .inl hc
    · exact .inr (.inl hc)
    · exact .inr (.inr hc)
  · refine wpAny_bind (quietInts (fun b hb' => ?_) ?_)
    · rcases List.mem_cons.mp hb' with rfl | hb'
      · exact ⟨S, n, hS⟩
      · exact ho b hb'
    simp only [Bool.not_true, Bool.false_eq_true, if_false]
    refine wpAny_bind (wpAny_rule ?_)
    obtain ⟨o₂, es₂, ep₂, t₂, ho₂, hex₂, hd₂, hel₂, hmem₂, hb₂, hf₂, hn₂⟩ := id hr
    refine wpAny_bind (wpAny_setState_of ho₂ hd₂ hf₂ ?_)
    dsimp only
    refine wpAny_ite_split (fun hc' => ?_) (fun hc' => ?_)
    · refine wpAny_bind (wpAny_storeSet_of ho₂ hd₂ (wpAny_pure (h es _ M1 (Heap.SameBut.update ..) ?_)) (fits_of_scanBound hb₂))
      have := (SetOf_store (t' := { t₂ with led := t₂.led && t.led, plain := t₂.plain && t.plain }) ho₂ hex₂ hd₂ hel₂ hmem₂ hb₂ (by cases t₂; exact hf₂)).2
      rw [hn₂] at this
      exact this
    · exact wpAny_pure (h es s.heap M1 (Heap.SameBut.refl ..) hr)
theorem setsInt {S : Int → Bool} {n : Nat} (hS : s.heap.SetOf (intKind prog w) a S n) : s.TypeIs (.ref a) "set" := Heap.SetOf.typeIs hS
theorem SetOf.same {S : Int → Bool} {n : Nat} {b : Addr} {h h' : Heap} (hS : h.SetOf (intKind prog w) a S n) (hs : Heap.SameBut b h h') (hab : a ≠ b) : h'.SetOf (intKind prog w) a S n := by
  obtain ⟨o, es, ep, t, ho, r⟩ := hS
  exact ⟨o, es, ep, t, (hs.2 a hab).trans ho, r⟩
theorem SetOf.keeps {S : Int → Bool} {n : Nat} {h h' : Heap} (hS : h.SetOf (intKind prog w) a S n) (k : ∀ o, h.get? a = some o → h'.get? a = some o) : h'.SetOf (intKind prog w) a S n := by
  obtain ⟨o, es, ep, t, ho, r⟩ := hS
  exact ⟨o, es, ep, t, k _ ho, r⟩
theorem sizeOfIs {S : Int → Bool} {n : Nat} {Q : Nat → Shared → Prop} (hS : s.heap.SetOf (intKind prog w) a S n) (h : Q n s) : wpAny (model prog w) A (Builtin.Frozenset.sizeOf a) Q E s := by
  obtain ⟨o, es, ep, t, ho, hex, hd, hel, hmem, hb, hf, rfl⟩ := hS
  unfold Builtin.Frozenset.sizeOf
  exact wpAny_bind (wpAny_setEntries_of ho hd hf (wpAny_pure h))
/-- the one that two sets of ints share -/
theorem interOne {b : Addr} {S T : Int → Bool} {n m : Nat} {c : Int} {Q : Value → Shared → Prop} (hS : s.heap.SetOf (intKind prog w) a S n) (hT : s.heap.SetOf (intKind prog w) b T m) (hab : a ≠ b) (hnm : ¬ n < m)
    (h1 : S c = true) (h2 : T c = true) (hu : ∀ k, S k = true → T k = true → k = c)
    (h : ∀ h', (∀ b o, s.heap.get? b = some o → h'.get? b = some o) → h'.SetOf (intKind prog w) s.heap.objs.size (fun k => decide (k = c)) 1 → Q (.ref s.heap.objs.size) { s with heap := h' }) :
    wpAny (model prog w) A (Builtin.Frozenset.intersection "frozenset.intersection" a (.ref b)) Q E s := by
  unfold Builtin.Frozenset.intersection
  have e1 : (Value.ref b == Value.ref a) = false := by simp [Ne.symm hab]
  simp only [e1, Bool.false_eq_true, if_false]
  unfold Builtin.Frozenset.baseOf
  refine wpAny_bind (wpAny_bind (wpAny_isInstance (setsInt hS) sub_set_self ?_))
  simp only [if_true]
  refine wpAny_pure ?_
  refine wpAny_bind (wpAny_newSet_of (knd := intKind prog w) fun led hN => ?_)
  have k₁ : ∀ b o, s.heap.get? b = some o → (s.heap.push { cls := .type "set", dict := none, data := .set #[] 0 (.fresh 0 0 led) }).get? b = some o := fun b o e => Heap.get?_push_of_some _ e
  have hS₁ := SetOf.keeps hS fun o e => k₁ _ o e
  have hT₁ := SetOf.keeps hT fun o e => k₁ _ o e
  have ha : a ≠ s.heap.objs.size := by obtain ⟨o, _, _, _, ho, _⟩ := hS; exact Nat.ne_of_lt (Heap.lt_size ho)
  have hb : b ≠ s.heap.objs.size := by obtain ⟨o, _, _, _, ho, _⟩ := hT; exact Nat.ne_of_lt (Heap.lt_size ho)
  generalize hr : s.heap.objs.size = r at *
  generalize (s.heap.push { cls := .type "set", dict := none, data := .set #[] 0 (.fresh 0 0 led) }) = h₁ at *
  refine wpAny_bind (m := Builtin.Frozenset.addrOf (.ref r)) (wpAny_pure ?_)
  refine wpAny_bind (wpAny_holding ?_)
  unfold Builtin.Frozenset.isAnySet
  refine wpAny_bind (wpAny_bind (wpAny_isInstance (setsInt hT₁) sub_set_self ?_))
  show wpAny _ _ (pure true) _ _ _
  refine wpAny_pure ?_
  simp only [if_true]
  refine wpAny_bind (m := Builtin.Frozenset.addrOf (.ref b)) (wpAny_pure ?_)
  refine wpAny_bind (sizeOfIs hT₁ (wpAny_bind (sizeOfIs hS₁ ?_)))
  simp only [gt_iff_lt, if_neg hnm]
  obtain ⟨ob, esb, epb, tb, hob, hexb, hdb, helb, hmemb, hbb, hfb, hnb⟩ := id hT₁
  refine wpAny_bind (wpAny_setEpoch_of hob hdb hfb ?_)
  refine wpAny_bind (walkUnseen hT₁ (fun x hx => ?_) hN fun es' h₂ hM hs₂ hN₂ => ?_)
  · rcases List.mem_cons.mp hx with rfl | hx
    · exact ⟨S, n, hS₁⟩
    · rcases List.mem_singleton.mp hx with rfl
      exact ⟨_, _, hN⟩
  refine wpAny_bind (MeetsSeq2.wpAny_forIn_array _ (fun rest _ s' => ∃ h' found, s' = { s with heap := h' } ∧ Heap.SameBut r h₁ h' ∧ h'.SetOf (intKind prog w) r (fun k => found && decide (k = c)) (if found then 1 else 0) ∧ (∀ e ∈ rest, e ∈ es'.toList) ∧ (found = false → ∃ e ∈ rest, (intKind prog w).is c e.2 = true)) _ ?_ ?_ es' _ ?_)
  · rintro ⟨hx, x⟩ rest _ s' ⟨h', found, rfl, hsb, hN', hin, hf⟩
    obtain ⟨⟨k, hk, hkh⟩, hsc⟩ := hM.1 _ (hin _ (.head _))
    dsimp only at hk hkh hsc
    have hTk : T k = true := (hM.2 k).mpr ⟨_, hin _ (.head _), hk⟩
    have hS' : h'.SetOf (intKind prog w) a S n := SetOf.same hS₁ hsb ha
    have hfind : ∀ (Q' : Option Nat → Shared → Prop), (∀ rr : Option Nat, rr.isSome = S k → Q' rr { s with heap := h' }) → wpAny (model prog w) A (setFind a x hx) Q' E { s with heap := h' } := fun Q' q => by
      rw [hkh]
      exact wpAny_setFind_of (knd := intKind prog w) (k := k) hk hsc hS' q
    have hadd : ∀ (Q' : Bool → Shared → Prop), (∀ h'', Heap.SameBut r h' h'' → h''.SetOf (intKind prog w) r (fun k' => (found && decide (k' = c)) || decide (k' = k)) (if (found && decide (k = c)) then (if found then 1 else 0) else (if found then 1 else 0) + 1) → Q' (!(found && decide (k = c))) { s with heap := h'' }) → wpAny (model prog w) A (setAddHashed r x hx) Q' E { s with heap := h' } := fun Q' q => by
      rw [hkh]
      exact wpAny_setAddHashed_of (knd := intKind prog w) (k := k) (s := { s with heap := h' }) hk hsc hN' (by cases found <;> decide) q
    refine wpAny_bind (wpAny_holding ?_)
    dsimp only
    refine wpAny_bind (hfind _ fun rr hrr => ?_)
    have hun : ∀ h'' (Q' : Unit → Shared → Prop), Heap.SameBut r h₁ h'' → Q' () { s with heap := h'' } → wpAny (model prog w) A (Builtin.Frozenset.unchanged "frozenset.intersection" b epb) Q' E { s with heap := h'' } := fun h'' Q' hs'' q => by
      unfold Builtin.Frozenset.unchanged
      refine wpAny_bind (wpAny_setEpoch_of (s := { s with heap := h'' }) ((hs''.2 b hb).trans hob) hdb hfb ?_)
      simp only [bne_self_eq_false, Bool.false_eq_true, if_false]
      exact wpAny_pure q
    cases hSk : S k with
    | true =>
      have hkc : k = c := hu k hSk hTk
      rw [hrr, hSk]
      simp only [if_true]
      refine wpAny_bind (hadd _ fun h'' hs'' hN'' => ?_)
      refine wpAny_pure (wpAny_bind (hun h'' _ (hsb.trans hs'') ?_))
      refine wpAny_pure ⟨h'', true, rfl, hsb.trans hs'', ?_, fun e he => hin e (.tail _ he), fun q => by cases q⟩
      refine SetOf_congr hN'' (fun k' => ?_) ?_
      · subst hkc; cases found <;> simp
      · subst hkc; cases found <;> simp
    | false =>
      rw [hrr, hSk]
      simp only [Bool.false_eq_true, if_false]
      refine wpAny_pure (wpAny_bind (hun h' _ hsb ?_))
      refine wpAny_pure ⟨h', found, rfl, hsb, hN', fun e he => hin e (.tail _ he), fun q => ?_⟩
      obtain ⟨e, he, hce⟩ := hf q
      rcases List.mem_cons.mp he with rfl | he
      · have e := KeyKind.is_eq_decide hk c
        rw [hce] at e
        have : k = c := (of_decide_eq_true e.symm).symm
        subst this
        rw [h1] at hSk; cases hSk
      · exact ⟨e, he, hce⟩
  · rintro _ s' ⟨h', found, rfl, hsb, hN', _, hf⟩
    cases found with
    | false => obtain ⟨e, he, _⟩ := hf rfl; cases he
    | true =>
      refine wpAny_pure (wpAny_pure (h h' (fun b' o e => ?_) ?_))
      · have hbr : b' ≠ r := by rw [← hr]; exact Nat.ne_of_lt (Heap.lt_size e)
        exact (hsb.2 b' hbr).trans (k₁ _ _ e)
      · exact SetOf_congr hN' (fun k => by simp) rfl
  · refine ⟨h₂, false, rfl, hs₂, SetOf_congr hN₂ (fun k => by simp) rfl, fun e he => he, fun _ => ?_⟩
    exact (hM.2 c).mp h2
theorem inter_entry : entryFor table "set.intersection" = some Builtin.«frozenset.intersection» :=
  entryFor_alias (id' := "frozenset.intersection") (by kernel_rfl) rfl (by decide +kernel) (by kernel_rfl)
theorem interCall {b : Addr} {S T : Int → Bool} {n m : Nat} {c : Int} {Q : Value → Shared → Prop} (hS : s.heap.SetOf (intKind prog w) a S n) (hT : s.heap.SetOf (intKind prog w) b T m) (hab : a ≠ b) (hnm : ¬ n < m)
    (h1 : S c = true) (h2 : T c = true) (hu : ∀ k, S k = true → T k = true → k = c)
    (h : ∀ h', (∀ b o, s.heap.get? b = some o → h'.get? b = some o) → h'.SetOf (intKind prog w) s.heap.objs.size (fun k => decide (k = c)) 1 → Q (.ref s.heap.objs.size) { s with heap := h' }) :
    wpAny (model prog w) A (call (.builtin "set.intersection") [.ref a, .ref b]) Q E s := by
  refine wpAny_call_entry F.slot_set_intersection (setsInt hS) inter_entry ?_ (F.args_set_intersection_2 _ _)
  unfold Builtin.«frozenset.intersection»
  refine wpAny_bind (m := Builtin.Frozenset.manyOthers "intersection" _) (wpAny_of_eq (a := (a, [.ref b])) rfl ?_)
  dsimp only
  rw [if_neg (by simp)]
  rw [List.forIn_cons]
  refine wpAny_bind (wpAny_bind (wpAny_bind (wpAny_holding ?_)))
  refine wpAny_bind (m := Builtin.Frozenset.addrOf (.ref a)) (wpAny_pure ?_)
  refine interOne hS hT hab hnm h1 h2 hu fun h' k hN => ?_
  refine wpAny_pure ?_
  show wpAny _ _ (pure (Value.ref s.heap.objs.size)) _ _ _
  exact wpAny_pure (wpAny_pure ⟨_, rfl, h h' k hN⟩)
theorem takeChoose {src : Source} {n : Nat} {Q : Nat → Shared → Prop} (hn : n ≠ 0) (h : ∀ i d, i < n → Q i { s with drawn := d }) : wpAny (model prog w) A (choose src n) Q E s := by
  intro Γ p hΓ
  exact ⟨hn, h _ _ (Nat.mod_lt _ (Nat.pos_of_ne_zero hn))⟩
/-- the only one of a set of ints is taken out -/
theorem popOne {c : Int} {Q : Value → Shared → Prop} (hS : s.heap.SetOf (intKind prog w) a (fun k => decide (k = c)) 1)
    (h : ∀ h' d t, Heap.SameBut a s.heap h' → Q (.int c t) { s with heap := h', drawn := d }) : wpAny (model prog w) A (call (.builtin "set.pop") [.ref a]) Q E s := by
  refine wpAny_call_entry F.slot_set_pop (setsInt hS) F.entry_set_pop ?_ (F.args_set_pop_1 _)
  obtain ⟨o, es, ep, t, ho, hex, hd, hel, hmem, hb, hf, hn⟩ := hS
  unfold Builtin.«set.pop»
  refine wpAny_bind (m := Builtin.Frozenset.noArgs "pop" _) (wpAny_of_eq (a := a) rfl ?_)
  unfold setPop
  refine wpAny_bind (wpAny_bind (wpAny_setState_of ho hd hf ?_))
  dsimp only
  have hpl : t.place.size = 1 := by
    simp only [SetTable.fits, Bool.and_eq_true, beq_iff_eq] at hf
    rw [hf.1, hn]
  obtain ⟨j, hj, hj0⟩ : ∃ j, t.popPlace = some j ∧ j = 0 := by
    unfold SetTable.popPlace
    rw [if_neg (by rw [Array.isEmpty_iff_size_eq_zero, hpl]; decide)]
    refine ⟨_, rfl, ?_⟩
    split <;> omega
  rw [hj]
  dsimp only
  obtain ⟨x, hx⟩ : ∃ x, es = #[x] := by
    obtain ⟨x, hx⟩ := List.length_eq_one_iff.mp (show es.toList.length = 1 by simpa using hn)
    exact ⟨x, by rw [← Array.toArray_toList (xs := es), hx]⟩
  subst hx
  obtain ⟨⟨k, hk, _⟩, _⟩ := hel x (by simp)
  have hkc : k = c := by simpa using (hmem k).mpr ⟨x, by simp, hk⟩
  subst hkc
  obtain ⟨hx', v⟩ := x
  obtain ⟨tt, rfl⟩ : ∃ t, v = .int k t := Value.isInt_shape hk
  have fin : ∀ (i : Nat) (d : Drawn), i = 0 → wpAny (model prog w) A.in1 (do
      let some (_, x) := (#[(hx', Value.int k tt)] : Array (Int × Value))[i]? | unsupported "internal:set.pop"
      storeSet a (SetTable.eraseAt #[(hx', Value.int k tt)] i) (t.popped i)
      return some x : Sem (Option Value)) (fun r s' => ∃ h' t', r = some (.int k t') ∧ s' = { s with heap := h', drawn := d } ∧ Heap.SameBut a s.heap h') E { s with drawn := d } := fun i d hi => by
    subst hi
    refine wpAny_bind (wpAny_storeSet_of (s := { s with drawn := d }) ho hd ?_ ?_)
    · exact wpAny_pure ⟨_, tt, rfl, rfl, Heap.SameBut.update ..⟩
    · have : (SetTable.eraseAt #[(hx', Value.int k tt)] 0).size ≤ 1 := by simp [SetTable.eraseAt]
      rw [sizeLine_eq]; omega
  refine wpAny_bind (askText ?_)
  refine wpAny_ite_split (fun hc => ?_) (fun hc => ?_)
  · refine wpAny_bind (takeChoose (by simp) fun i d hi => ?_)
    have hi0 : i = 0 := by simp at hi; exact hi
    refine wpAny_mono (fin i d hi0) (fun r s' hr => ?_) fun _ _ z => z
    obtain ⟨h', t', rfl, rfl, hs⟩ := hr
    exact wpAny_pure ⟨_, rfl, h h' d t' hs⟩
  · show wpAny _ _ ((if (!t.led && decide (Array.size #[(hx', Value.int k tt)] > 1)) = true then unsupported "set:maker-not-led" else pure ()) >>= _) _ _ _
    rw [if_neg (by simp)]
    refine wpAny_bind (wpAny_pure ?_)
    refine wpAny_bind (wpAny_pure ?_)
    refine wpAny_mono (fin j s.drawn hj0) (fun r s' hr => ?_) fun _ _ z => z
    obtain ⟨h', t', rfl, rfl, hs⟩ := hr
    exact wpAny_pure ⟨_, rfl, h h' s.drawn t' hs⟩
end
end Mine
end
section
open PySem PySem.W PyProof.Rows PySem.Calls
set_option linter.unusedVariables false
namespace Mine
set_option maxRecDepth 100000
set_option maxHeartbeats 4000000
local macro_rules | `(tactic| walk_at "eval Name") => `(tactic| (with_unfolding_all refine' ldL ?F ?v ?_ ?k ?l ?d; (case F => assumption); (case k => rfl); (case l => rfl); (case d => rfl); (case v => first | assumption | rfl)))
local macro_rules | `(tactic| walk_at "eval Name") => `(tactic| (with_unfolding_all refine' ldG ?T ?F ?e ?_ ?k ?g ?x ?d; (case T => assumption); (case F => assumption); (case k => rfl); (case g => rfl); (case x => rfl); (case d => rfl); (case e => rfl)))
local macro_rules | `(tactic| walk_at "eval Name") => `(tactic| (with_unfolding_all refine' ldB ?T ?F ?e ?v ?n ?_ ?k ?g ?b ?x ?d; (case T => assumption); (case F => assumption); (case k => rfl); (case g => rfl); (case b => rfl); (case x => rfl); (case d => rfl); (case e => rfl); (case v => boot_fast); (case n => decide)))
local macro_rules | `(tactic| walk_at "storeName") => `(tactic| (with_unfolding_all refine' stL ?F ?_ ?k ?l; (case F => assumption); (case k => rfl); (case l => rfl); intro h' F'))
local macro_rules | `(tactic| walk_at "callWith ref") => `(tactic| (with_unfolding_all refine' callWith_K (K := KK _) ?X ?k ?_; (case X => exact (Txt.k (by assumption))); (case k => rfl)))
local macro_rules | `(tactic| walk_at "callWith ref") => `(tactic| (with_unfolding_all refine' callWith_K0 (K := KK _) ?X ?k ?_; (case X => exact (Txt.keeps (by assumption) (Loc.st (by assumption))).k); (case k => rfl)))
local macro_rules | `(tactic| walk_at "And") => `(tactic| (refine ⟨(Txt.keeps (by assumption) (Loc.st (by assumption))).k, ?_⟩))
local macro_rules | `(tactic| walk_at "assign Tuple") => `(tactic| (refine' unpackL ?F ?hh ?ht ?hc ?hd ?hn ?hs ?_; (case F => assumption); (case hh => assumption); (case ht => assumption); (case hc => rfl); (case hd => rfl); (case hn => rfl); (case hs => rfl); intro h' F' k'))
local macro_rules | `(tactic| walk_at "tree") => `(tactic| first | (with_reducible show wpAny _ _ _ _ _ _) | (with_reducible show (if _ then _ else _)) | (with_reducible show Frag.In _ _ ∧ _))
local macro_rules | `(tactic| walk_at "mw") => `(tactic| repeat' (first | (walk_at "tree"; walk1) | (dsimp only; walk_at "tree"; walk1)))
local macro_rules | `(tactic| walk_at "newTuple") => `(tactic| (refine newTupleL (by assumption) (fun h' a' F' ka na Na oa => ?_)))
local macro_rules | `(tactic| walk_at "exec Assign") => `(tactic| (with_reducible refine plainObj_wpAny_Assign_Attribute ?_ ?_; rotate_left; with_unfolding_all rfl))
section
variable {prog : Program} {w : World} {A : Around} {E : Value → Shared → Prop} {s : Shared} {env : Env} {H : Heap} {m mg mb : Str → Option Value} {x : Str} {pos : Pos} {v : Value} {c : Addr}
theorem ldC {Q : Value → Shared → Prop} (F : Loc H env.locals s.heap m) (hc : env.cells.lookup x = some c) (hv : H.IsCell c (some v)) (h : Q v s) (hk : env.scope.kind = .function) (hl : env.kindOf x = some .cell) (hd : (x == ("__debug__" : Str)) = false) :
    wpAny (model prog w) A (eval (.Name x pos) env) Q E s := wpAny_Name (wpAny_loadName_cell hk hl hc (hv.keeps F.st) h) hd
theorem Loc.cellInn {h : Heap} {L c : Addr} {v : Option Value} (x : h.IsCell c v) (hc : c ≠ L) : (h.hide L).IsCell c v := let ⟨o, ho, hd⟩ := x; ⟨o, (Heap.hide_ne h hc).trans ho, hd⟩
end
local macro_rules | `(tactic| walk_at "eval Name") => `(tactic| (with_unfolding_all refine' ldC ?F ?c ?v ?_ ?k ?l ?d; (case F => assumption); (case k => rfl); (case l => rfl); (case d => rfl); (case c => rfl); (case v => assumption)))
/-- a call of a def whose names lie in cells -/
theorem enterC {prog : Program} {w : World} {A : Around} {s : Shared} {mg mb : Str → Option Value} {R : Result → Shared → Prop} {d : Int} {t u : Tok} {x : Str} (T : Txt w mg mb s.heap) (hroom : A.depth < recursionLimit) {fd : FuncData} {body : List Stmt}
    (hfd : ∃ o, (KK w).lookup 97 = some o ∧ o.data = .func fd) (hb : fd.body = .stmts body)
    (h : ∀ h₀ tk₀, s.heap.StaysIn h₀ → h₀.Ns s.heap.objs.size (fun y => if y = Str.ofString "name" then some (.str x u) else none) → h₀.IsCell (s.heap.objs.size + 1) (some (.int d t)) → h₀.IsCell (s.heap.objs.size + 2) none →
      wpAny (model prog w) (A.deeper (callEnvC fd s.heap.objs.size 97)) (execs body (callEnvC fd s.heap.objs.size 97)) (fun f s' => R (.ok (.ret (match f with | .ret v => v | _ => .none))) s')
        (fun e s' => wpAny (model prog w) (A.deeper (callEnvC fd s.heap.objs.size 97)) (leaving (callEnvC fd s.heap.objs.size 97) e) (fun _ s'' => R (.error e) s'') (fun e' s'' => R (.error e') s'') s')
        { s with heap := h₀, toks := tk₀ }) : codeAny (model prog w) A (.call (.ref 97) ⟨[.int d t, .str x u], []⟩) R s := by
  obtain ⟨o, ho, hd⟩ := hfd
  have e := (rfl : (KK w).lookup 97 = some _)
  rw [e] at ho
  cases ho
  cases hd
  cases hb
  refine codeAny_call_cells (binds := [(Str.ofString "day", .int d t), (Str.ofString "name", .str x u)]) hroom (T.k 97 _ rfl) rfl T.t.nolimit (codeRec_of T.k rfl) rfl rfl rfl (fun y hy => ?_) fun s₁ X => ?_
  · rcases List.mem_cons.mp hy with rfl | hy
    · exact .inr ⟨rfl, rfl⟩
    · rcases List.mem_singleton.mp hy with rfl
      exact .inl rfl
  · obtain ⟨h₁, tk₁, rfl⟩ := X.toInCall.same
    exact h h₁ tk₁ X.toInCall.keep X.toInCall.ns (X.cell (Str.ofString "day") _ rfl) (X.cell (Str.ofString "n") _ rfl)
section
variable {prog : Program} {w : World} {A : Around} {s : Shared} {mg mb : Str → Option Value} {R : Result → Shared → Prop} {B : Heap} {fl : List Env} {d : Int} {t u : Tok} {x : Str}
theorem count_raise (T : Txt w mg mb B) (K : Blw A B fl s.heap) (hh : A.handled = none) (hroom : A.depth + 4 < recursionLimit) (hd : d < 1)
    (h : ∀ h' e tk', Fly B fl e "IndexError" h' → Slt (fsOf fl) s.heap h' → R (.error (.ref e)) { s with heap := h', toks := tk' }) :
    codeAny (model prog w) A (.call (.ref 97) ⟨[.int d t, .str x u], []⟩) R s := by
  refine enterC (T.keeps K.stays) (by omega) ⟨_, rfl, rfl⟩ rfl fun h₀ tk₀ k₀ ns₀ c₀ d₀ => ?_
  have F₀ : Loc (h₀.hide s.heap.objs.size) s.heap.objs.size h₀ _ := ⟨ns₀, fun _ _ e => Heap.of_hide e, Heap.hide_self ..⟩
  have hBL : B.get? s.heap.objs.size = none := Heap.StaysIn.fresh K.stays
  have T₀ : Txt w mg mb (h₀.hide s.heap.objs.size) := T.keeps (StaysIn.hide (StaysIn.trans K.stays k₀) _ hBL)
  have c₁ := Loc.cellInn c₀ (Nat.succ_ne_self _)
  walk_at "mw"
  all_goals first | (exfalso; omega) | skip
  refine Raise_madeB PySem.F.excCall_IndexError PySem.F.excRaise_IndexError (by exact hh) (ldB T₀ F₀ rfl (by kernel_rfl) (by decide) ⟨rfl, ?_⟩ rfl rfl rfl rfl rfl)
  walk_at "mw"
  refine ⟨by size_fits, fun h' e hm => ?_⟩
  have K₀ := K.keeps k₀
  refine leaveNew (K₀.deep ns₀ hBL rfl rfl) rfl (Heap.MadeExc.of hm) fun h₂ fl₂ u₂ => h _ e _ fl₂ ?_
  exact (Slt.of_keeps fun b o _ q => k₀ b o q).trans (K₀.slt ((Heap.UpToSlots.of_keeps hm.keeps).trans u₂))
end
end Mine
end
section
open PySem PySem.W PyProof.Rows PySem.Calls
set_option linter.unusedVariables false
namespace Mine
set_option maxRecDepth 100000
set_option maxHeartbeats 4000000
local macro_rules | `(tactic| walk_at "eval Name") => `(tactic| (with_unfolding_all refine' ldL ?F ?v ?_ ?k ?l ?d; (case F => assumption); (case k => rfl); (case l => rfl); (case d => rfl); (case v => first | assumption | rfl)))
local macro_rules | `(tactic| walk_at "eval Name") => `(tactic| (with_unfolding_all refine' ldG ?T ?F ?e ?_ ?k ?g ?x ?d; (case T => assumption); (case F => assumption); (case k => rfl); (case g => rfl); (case x => rfl); (case d => rfl); (case e => rfl)))
local macro_rules | `(tactic| walk_at "eval Name") => `(tactic| (with_unfolding_all refine' ldB ?T ?F ?e ?v ?n ?_ ?k ?g ?b ?x ?d; (case T => assumption); (case F => assumption); (case k => rfl); (case g => rfl); (case b => rfl); (case x => rfl); (case d => rfl); (case e => rfl); (case v => boot_fast); (case n => decide)))
local macro_rules | `(tactic| walk_at "storeName") => `(tactic| (with_unfolding_all refine' stL ?F ?_ ?k ?l; (case F => assumption); (case k => rfl); (case l => rfl); intro h' F'))
local macro_rules | `(tactic| walk_at "callWith ref") => `(tactic| (with_unfolding_all refine' callWith_K (K := KK _) ?X ?k ?_; (case X => exact (Txt.k (by assumption))); (case k => rfl)))
local macro_rules | `(tactic| walk_at "callWith ref") => `(tactic| (with_unfolding_all refine' callWith_K0 (K := KK _) ?X ?k ?_; (case X => exact (Txt.keeps (by assumption) (Loc.st (by assumption))).k); (case k => rfl)))
local macro_rules | `(tactic| walk_at "And") => `(tactic| (refine ⟨(Txt.keeps (by assumption) (Loc.st (by assumption))).k, ?_⟩))
local macro_rules | `(tactic| walk_at "assign Tuple") => `(tactic| (refine' unpackL ?F ?hh ?ht ?hc ?hd ?hn ?hs ?_; (case F => assumption); (case hh => assumption); (case ht => assumption); (case hc => rfl); (case hd => rfl); (case hn => rfl); (case hs => rfl); intro h' F' k'))
local macro_rules | `(tactic| walk_at "tree") => `(tactic| first | (with_reducible show wpAny _ _ _ _ _ _) | (with_reducible show (if _ then _ else _)) | (with_reducible show Frag.In _ _ ∧ _))
local macro_rules | `(tactic| walk_at "mw") => `(tactic| repeat' (first | (walk_at "tree"; walk1) | (dsimp only; walk_at "tree"; walk1)))
local macro_rules | `(tactic| walk_at "newTuple") => `(tactic| (refine newTupleL (by assumption) (fun h' a' F' ka na Na oa => ?_)))
local macro_rules | `(tactic| walk_at "exec Assign") => `(tactic| (with_reducible refine plainObj_wpAny_Assign_Attribute ?_ ?_; rotate_left; with_unfolding_all rfl))
theorem rangeL3 {prog : Program} {w : World} {A : Around} {E : Value → Shared → Prop} {s : Shared} {H : Heap} {L : Addr} {m : Str → Option Value} {Q : Value → Shared → Prop} {a b c : Int} {t u v : Tok} (F : Loc H L s.heap m) (hc : c ≠ 0)
    (h : ∀ h' r, Loc H L h' m → s.heap.StaysIn h' → IsRange h' r a b c t u v → Q (.ref r) { s with heap := h' })
    (hp : Builtin.divisionGoesByPylong (b - a) c = false := by exact PyProof.noPylong_of_log2 (by decide +kernel)) :
    wpAny (model prog w) A (call (.type "range") [.int a t, .int b u, .int c v]) Q E s :=
  call_range_3 hc (h _ _ (F.push _) (fun _ _ e => Heap.get?_push_of_some _ e) (IsRange.new ..)) (.inl hp)
theorem firstMet_len {val : Nat → Int} (h : ∀ i j, val i = val j → i = j) : ∀ n, (firstMet val n).length = n
  | 0 => rfl
  | n + 1 => by
    rw [firstMet_succ, step_length, firstMet_any, firstMet_len h n, if_neg]
    intro hc
    rw [List.any_eq_true] at hc
    obtain ⟨x, hx, hxe⟩ := hc
    obtain ⟨i, hi, rfl⟩ := List.mem_map.mp hx
    have := h i n (by simpa using hxe)
    have := List.mem_range.mp hi
    omega
theorem firstMet_mem {val : Nat → Int} {n : Nat} {k : Int} : ((firstMet val n).any (· == k)) = true ↔ ∃ i, i < n ∧ val i = k := by
  rw [firstMet_any, List.any_eq_true]
  constructor
  · rintro ⟨x, hx, hxe⟩
    obtain ⟨i, hi, rfl⟩ := List.mem_map.mp hx
    exact ⟨i, List.mem_range.mp hi, by simpa using hxe⟩
  · rintro ⟨i, hi, rfl⟩
    exact ⟨_, List.mem_map.mpr ⟨i, List.mem_range.mpr hi, rfl⟩, by simp⟩
/-- the count of a day: the place in the round of 260 -/
def cnt (d : Int) (p : Nat) : Int := (40 * d - 39 * (p + 1) - 1) % 260 + 1
theorem cnt_ok {d : Int} {p : Nat} (h1 : 1 ≤ d) (h2 : d ≤ 13) (hp : p < 20) : 1 ≤ cnt d p ∧ cnt d p ≤ 260 ∧ nu (cnt d p) = d ∧ pl (cnt d p) = p := by
  unfold cnt nu pl
  refine ⟨by omega, by omega, by omega, by omega⟩
theorem cnt_in1 {d : Int} {p : Nat} (h1 : 1 ≤ d) (h2 : d ≤ 13) (hp : p < 20) : ∃ i : Nat, i < 20 ∧ 0 + (i : Int) * 13 + d = cnt d p := by
  unfold cnt
  exact ⟨(((40 * d - 39 * (p + 1) - 1) % 260 + 1 - d) / 13).toNat, by omega, by omega⟩
theorem cnt_in2 {d : Int} {p : Nat} (h1 : 1 ≤ d) (h2 : d ≤ 13) (hp : p < 20) : ∃ i : Nat, i < 13 ∧ 0 + (i : Int) * 20 + (1 + (p : Int)) = cnt d p := by
  unfold cnt
  exact ⟨(((40 * d - 39 * (p + 1) - 1) % 260 + 1 - (p + 1)) / 20).toNat, by omega, by omega⟩
theorem cnt_only {d : Int} {p i j : Nat} (h1 : 1 ≤ d) (h2 : d ≤ 13) (hp : p < 20) (hi : i < 20) (hj : j < 13) (e : 0 + (i : Int) * 13 + d = 0 + (j : Int) * 20 + (1 + (p : Int))) : 0 + (i : Int) * 13 + d = cnt d p := by
  unfold cnt
  omega
end Mine
end
section
open PySem PySem.W PyProof.Rows PySem.Calls
set_option linter.unusedVariables false
namespace Mine
set_option maxRecDepth 100000
set_option maxHeartbeats 400000
local macro_rules | `(tactic| walk_at "eval Name") => `(tactic| (with_unfolding_all refine' ldL ?F ?v ?_ ?k ?l ?d; (case F => assumption); (case k => rfl); (case l => rfl); (case d => rfl); (case v => first | assumption | rfl)))
local macro_rules | `(tactic| walk_at "eval Name") => `(tactic| (with_unfolding_all refine' ldG ?T ?F ?e ?_ ?k ?g ?x ?d; (case T => assumption); (case F => assumption); (case k => rfl); (case g => rfl); (case x => rfl); (case d => rfl); (case e => rfl)))
local macro_rules | `(tactic| walk_at "eval Name") => `(tactic| (with_unfolding_all refine' ldB ?T ?F ?e ?v ?n ?_ ?k ?g ?b ?x ?d; (case T => assumption); (case F => assumption); (case k => rfl); (case g => rfl); (case b => rfl); (case x => rfl); (case d => rfl); (case e => rfl); (case v => boot_fast); (case n => decide)))
local macro_rules | `(tactic| walk_at "storeName") => `(tactic| (with_unfolding_all refine' stL ?F ?_ ?k ?l; (case F => assumption); (case k => rfl); (case l => rfl); intro h' F'))
local macro_rules | `(tactic| walk_at "callWith ref") => `(tactic| (with_unfolding_all refine' callWith_K (K := KK _) ?X ?k ?_; (case X => exact (Txt.k (by assumption))); (case k => rfl)))
local macro_rules | `(tactic| walk_at "callWith ref") => `(tactic| (with_unfolding_all refine' callWith_K0 (K := KK _) ?X ?k ?_; (case X => exact (Txt.keeps (by assumption) (Loc.st (by assumption))).k); (case k => rfl)))
local macro_rules | `(tactic| walk_at "And") => `(tactic| (refine ⟨(Txt.keeps (by assumption) (Loc.st (by assumption))).k, ?_⟩))
local macro_rules | `(tactic| walk_at "assign Tuple") => `(tactic| (refine' unpackL ?F ?hh ?ht ?hc ?hd ?hn ?hs ?_; (case F => assumption); (case hh => assumption); (case ht => assumption); (case hc => rfl); (case hd => rfl); (case hn => rfl); (case hs => rfl); intro h' F' k'))
local macro_rules | `(tactic| walk_at "tree") => `(tactic| first | (with_reducible show wpAny _ _ _ _ _ _) | (with_reducible show (if _ then _ else _)) | (with_reducible show Frag.In _ _ ∧ _))
local macro_rules | `(tactic| walk_at "mw") => `(tactic| repeat' (first | (walk_at "tree"; walk1) | (dsimp only; walk_at "tree"; walk1)))
local macro_rules | `(tactic| walk_at "newTuple") => `(tactic| (refine newTupleL (by assumption) (fun h' a' F' ka na Na oa => ?_)))
local macro_rules | `(tactic| walk_at "exec Assign") => `(tactic| (with_reducible refine plainObj_wpAny_Assign_Attribute ?_ ?_; rotate_left; with_unfolding_all rfl))
/-- older generators as they were; none left in the midst of a clean-up -/
def Gk (a b : Array GenState) : Prop := (∀ (i : Nat) (x : GenState), a[i]? = some x → b[i]? = some x) ∧ ((∀ y ∈ a, y.bare = true) → ∀ y ∈ b, y.bare = true)
theorem Gk.refl (a : Array GenState) : Gk a a := ⟨fun _ _ e => e, fun h => h⟩
theorem Gk.trans {a b c : Array GenState} (x : Gk a b) (y : Gk b c) : Gk a c := ⟨fun i z e => y.1 i z (x.1 i z e), fun h => y.2 (x.2 h)⟩
theorem Gk.of {a b : Array GenState} {g : GenState} (hg : g.bare = true) (x : GenOnlyQ a.size (a.push g) b) : Gk a b := by
  refine ⟨fun i z e => ?_, fun h => ?_⟩
  · have hlt : i < a.size := by
      rcases Nat.lt_or_ge i a.size with h | h
      · exact h
      · rw [Array.getElem?_eq_none h] at e; cases e
    have e' : (a.push g)[i]? = some z := by rw [Array.getElem?_push_lt hlt, ← e, Array.getElem?_eq_getElem hlt]
    rcases x with rfl | ⟨⟨_, ho⟩, _⟩
    · exact e'
    · rw [ho i (Nat.ne_of_lt hlt)]; exact e'
  · refine x.bare fun y hy => ?_
    rcases Array.mem_push.mp hy with hy | rfl
    · exact h y hy
    · exact hg
theorem passAll (n : Nat) : passing (fun _ => true) n 0 = List.range n := by unfold passing; simp
section
variable {prog : Program} {w : World} {A : Around} {E : Value → Shared → Prop} {s : Shared} {env : Env} {mg : Str → Option Value} {bm : Addr} {ob : Obj} {c P I cc : Addr} {ps : Array Value} {pos px py bp : Pos} {x y : Str} {scope : Scope} {cl : List (Str × Addr)} {a0 st add : Int} {n₀ : Nat} {tt : Tok}
theorem ldF {env : Env} {x : Str} {pos : Pos} {v : Value} {c : Addr} {Q : Value → Shared → Prop} (hc : env.cells.lookup x = some c) (hv : s.heap.IsCell c (some v)) (h : Q v s) (hk : env.scope.kind = .function) (hl : env.kindOf x = some .free) (hd : (x == ("__debug__" : Str)) = false) (hn : (x == ("__classdict__" : Str)) = false) :
    wpAny (model prog w) A (eval (.Name x pos) env) Q E s := wpAny_Name (wpAny_loadName_free hk hl hc hv h hn) hd
theorem genexprSet {Q : Value → Shared → Prop} (hh : A.handled = none) (M : BMod s.heap mainGlobals mg bm ob) (hl : s.heap.NoLimit) (hcode : env.code = .ref c) (hg : env.globals = mainGlobals)
    (hC : s.heap.IsCode c P ps) (hT : s.heap.TableAt c P ps) (hnf : codeAmong pos ps.toList = none) (hI : IsRangeIter s.heap I a0 n₀ st) (hcell : s.heap.IsCell cc (some (.int add tt)))
    (hlk : cl.lookup y = some cc) (hkx : scope.names.lookup x = some .local) (hky : scope.names.lookup y = some .free) (hkind : scope.kind = .function) (hxd : (x == ("__debug__" : Str)) = false) (hyd : (y == ("__debug__" : Str)) = false) (hyc : (y == ("__classdict__" : Str)) = false)
    (hn : n₀ + 1 < scanBound) (hcs : cStatics ≠ I)
    (h : ∀ a s₅, (∀ (Qs : Value → Shared → Prop) (Es : Value → Shared → Prop), (∀ S s' c', s' = { s with heap := s'.heap, gens := s'.gens, toks := s'.toks } → (∀ b o, b ≠ P → b ≠ I → s.heap.get? b = some o → s'.heap.get? b = some o) →
        s'.heap.IsCode c P (ps ++ #[rawInt pos.line, rawInt pos.col, .ref c']) → s'.heap.TableAt c P (ps ++ #[rawInt pos.line, rawInt pos.col, .ref c']) → Gk s.gens s'.gens → s.heap.get? S = none →
        s'.heap.SetOf (intKind prog w) S (fun k => (firstMet (fun i : Nat => a0 + (i : Int) * st + add) n₀).any (· == k)) (firstMet (fun i : Nat => a0 + (i : Int) * st + add) n₀).length → Qs (.ref S) s') →
      wpAny (model prog w) A (call (.type "set") [.ref a]) Qs Es s₅) → Q (.ref a) s₅) :
    s.heap.NoLimit ∧ wpAny (model prog w) A (genexprCode env pos (env.qual ++ "<genexpr>") scope) (fun code s₃ => wpAny (model prog w) A (builtinsFor env.globals env.builtins) (fun bi s₄ =>
        ∃ I' fp wr n₀ P St₀ pz F, Value.ref I = .ref I' ∧ (∀ A' : Around, A'.handled = none → Walks prog w A' I' fp wr n₀ P St₀) ∧ St₀ 0 s₄.heap ∧ (∀ b ∈ fp, b < s₄.heap.objs.size) ∧ s₄.heap.NoLimit ∧ cStatics ∉ wr ∧
          (∀ href : Heap, (∀ b o, s₄.heap.get? b = some o → href.get? b = some o) →
            QuietGen prog w (genEnv scope cl s₄.heap.objs.size code bi env) x [] (.BinOp (.Name x px) .Add (.Name y py) bp) (List.range s₄.heap.objs.size) wr P pz F href) ∧
          (∀ a h₅ tk gs, gs.bare = true → s₄.heap.objs.size < a → h₅.objs.size = a + 1 → (∀ b o, s₄.heap.get? b = some o → h₅.get? b = some o) →
            WalksS prog w A.in4 a (a :: s₄.heap.objs.size :: List.range s₄.heap.objs.size) (s₄.heap.objs.size :: wr) (GenOnlyQ s₄.gens.size) (passing pz n₀ 0).length
              (fun j y => ∃ i, (passing pz n₀ 0)[j]? = some i ∧ F i y) (GenAt prog w A.in4 a s₄.gens.size s₄.heap.objs.size (List.range s₄.heap.objs.size) wr pz n₀ F) →
            GenAt prog w A.in4 a s₄.gens.size s₄.heap.objs.size (List.range s₄.heap.objs.size) wr pz n₀ F 0 { s₄ with gens := s₄.gens.push gs, toks := tk, heap := h₅ } →
            Q (.ref a) { s₄ with gens := s₄.gens.push gs, toks := tk, heap := h₅ })) E s₃) E s := by
  have hIP : I ≠ P := by
    intro e
    obtain ⟨⟨oc, vc, hoc, hcc, hdc, h11⟩, htP⟩ := hT
    have hI' : s.heap.get? I = _ := hI
    rw [e, htP] at hI'
    cases hI'
  have hcP : cc ≠ P := by
    intro e
    obtain ⟨o, ho, hd⟩ := hcell
    rw [e, hT.2] at ho; cases ho; cases hd
  have hcI : cc ≠ I := by
    intro e
    obtain ⟨o, ho, hd⟩ := hcell
    have hI' : s.heap.get? I = _ := hI
    rw [e, hI'] at ho; cases ho; cases hd
  refine ⟨hl, wpAny_genexprCodeX hcode hC hT hnf fun c' h₃ tk₃ hx₃ hge hlt hcode₃ _ htab₃ _ => ?_⟩
  have M₃ : BMod h₃ mainGlobals mg bm ob := M.extBut hT hx₃
  have hsP : cStatics ≠ P := fun e => by
    obtain ⟨_, hns, _⟩ := hl
    obtain ⟨o, es, ep, ho, hd, _⟩ := hns
    rw [e, hT.2] at ho; cases ho; cases hd
  have hl₃ : h₃.NoLimit := hl.extBut hx₃ hsP
  rw [hg]
  refine wpAny_builtinsFor M₃.ns M₃.name M₃.ne M₃.obj M₃.cls M₃.dict M₃.data ?_
  have hI₃ : IsRangeIter h₃ I a0 n₀ st := hx₃ I _ hIP hI
  have hsz : s.heap.objs.size ≤ h₃.objs.size := Nat.le_trans hge (Nat.le_of_lt hlt)
  have hcell₃ : h₃.IsCell cc (some (.int add tt)) := let ⟨o, ho, hd⟩ := hcell; ⟨o, hx₃ cc o hcP ho, hd⟩
  refine ⟨I, [I], [I], n₀, _, _, fun _ => true, fun i v => ∃ t, v = .int (a0 + (i : Int) * st + add) t, rfl, fun A' hA' => Walks.range hA' I a0 st n₀, ?_, ?_, hl₃, by simpa using hcs, fun href hk => ?_, fun a h₅ tk gs hgb hlt' hsz₅ hk₅ W hat => ?_⟩
  · show IsRangeIter h₃ I (a0 + (0 : Nat) * st) ((n₀ : Int) - (0 : Nat)) st
    simpa using hI₃
  · intro b hb
    rcases List.mem_singleton.mp hb with rfl
    exact Heap.lt_size hI₃
  · refine ⟨?_, ?_⟩
    · intro A' E' i v s₂ m₂ _ _ _ _ _
      rw [List.forIn_nil]
      exact wpAny_pure ⟨rfl, s₂.heap, s₂.toks, rfl, fun _ _ e => e⟩
    · intro A' E' i v s₂ m₂ hA' hv _ hns hmx hkp
      obtain ⟨t, rfl⟩ := hv
      obtain ⟨o, ho, hd⟩ := hcell₃
      have hc₂ : s₂.heap.IsCell cc (some (.int add tt)) := ⟨o, hkp cc (List.mem_range.mpr (Heap.lt_size ho)) (by simpa using hcI) o (hk _ _ ho), hd⟩
      refine wpAny_BinOp ?_
      refine wpAny_Name (wpAny_loadName_local (by exact hkind) (by exact hkx) hns hmx ?_) hxd
      refine ldF (by exact hlk) hc₂ ?_ (by exact hkind) (by exact hky) hyd hyc
      exact wpAny_add_int ⟨⟨_, rfl⟩, s₂.heap, _, rfl, fun _ _ e => e⟩
  · refine h a _ fun Qs Es hq => ?_
    rw [passAll, List.length_range] at W
    have hTy : ∀ i s', GenAt prog w A.in4 a s.gens.size h₃.objs.size (List.range h₃.objs.size) [I] (fun _ => true) n₀ (fun i v => ∃ t, v = .int (a0 + (i : Int) * st + add) t) i s' → s'.TypeIs (.ref a) "generator" := fun i s' st' => st'.1.typeIs
    refine setOfGen W hTy hat (fun b hb => ?_) (.head _) (fun i : Nat => a0 + (i : Int) * st + add) (fun j v hv => ?_) hn fun led s' hm hS => ?_
    · show b < h₅.objs.size
      rw [hsz₅]
      rcases List.mem_cons.mp hb with rfl | hb
      · exact Nat.lt_succ_self _
      · rcases List.mem_cons.mp hb with rfl | hb
        · exact Nat.lt_succ_of_lt hlt'
        · exact Nat.lt_succ_of_lt (Nat.lt_trans (List.mem_range.mp hb) hlt')
    · obtain ⟨i, hi, t, rfl⟩ := hv
      obtain ⟨hi1, hi2⟩ := List.getElem?_eq_some_iff.mp hi
      rw [List.getElem_range] at hi2
      subst hi2
      exact ⟨t, rfl⟩
    · have kk : ∀ b o, b ≠ I → b < h₃.objs.size → h₃.get? b = some o → s'.heap.get? b = some o := fun b o q1 q2 e => by
        refine hm.heap b o ?_ (Heap.get?_push_of_some _ (hk₅ b o e))
        intro hb
        have hb5 : b < h₅.objs.size := by rw [hsz₅]; exact Nat.lt_succ_of_lt (Nat.lt_trans q2 hlt')
        rcases List.mem_cons.mp hb with z | hb
        · exact Nat.ne_of_lt hb5 z
        · rcases List.mem_cons.mp hb with z | hb
          · exact Nat.ne_of_lt q2 z
          · exact q1 (List.mem_singleton.mp hb)
      have k3 : ∀ b o, b ≠ I → h₃.get? b = some o → s'.heap.get? b = some o := fun b o q e => kk b o q (Heap.lt_size e) e
      obtain ⟨oc, vs, file, tf, flags, tg, inF, text, tt', op, e1, e2, e3, e4, e5, e6, e7, e8, e9, e10, e11⟩ := hcode₃
      have cI : c ≠ I := by
        intro z
        obtain ⟨⟨o', v', g1, g2, g3, g4⟩, _⟩ := htab₃
        rw [z, hI₃] at g1; cases g1; exact absurd (Value.type.inj g2) (by decide)
      refine hq _ s' c' ?_ (fun b o q1 q2 e => k3 b o q2 (hx₃ b o q1 e)) ⟨oc, vs, file, tf, flags, tg, inF, text, tt', op, k3 _ _ cI e1, e2, e3, e4, e5, e6, e7, k3 _ _ hIP.symm e8, e9, e10, e11⟩ ?_ (Gk.of hgb hm.gens) ?_ hS
      · obtain ⟨hp', g', d', t', os'⟩ := s'
        have ed : d' = s.drawn := hm.drawn
        have eo : os' = s.os := hm.os
        subst ed; subst eo; rfl
      · obtain ⟨⟨o', v', g1, g2, g3, g4⟩, g5⟩ := htab₃
        exact ⟨⟨o', v', k3 _ _ cI g1, g2, g3, g4⟩, k3 _ _ hIP.symm g5⟩
      · refine Heap.get?_none_of_le ?_
        show s.heap.objs.size ≤ h₅.objs.size
        rw [hsz₅]
        exact Nat.le_succ_of_le (Nat.le_of_lt (Nat.lt_of_le_of_lt hsz hlt'))
end
section
variable {prog : Program} {w : World} {A : Around} {E : Value → Shared → Prop} {s : Shared} {env : Env} {pos px py bp px2 : Pos} {x y : Str} {iter : Expr} {scope : Scope} {cl : List (Str × Addr)}
/-- what must hold where a genexpr's iterator stands -/
structure GenPre (prog : Program) (w : World) (A : Around) (env : Env) (pos : Pos) (cl : List (Str × Addr)) (y : Str) (Q : Value → Shared → Prop) (I : Addr) (s : Shared) (mg : Str → Option Value) (bm : Addr) (ob : Obj) (c P cc : Addr) (ps : Array Value) (a0 st add : Int) (n₀ : Nat) (tt : Tok) : Prop where
  M : BMod s.heap mainGlobals mg bm ob
  hl : s.heap.NoLimit
  hcode : env.code = .ref c
  hg : env.globals = mainGlobals
  hC : s.heap.IsCode c P ps
  hT : s.heap.TableAt c P ps
  hnf : codeAmong pos ps.toList = none
  hI : IsRangeIter s.heap I a0 n₀ st
  hcell : s.heap.IsCell cc (some (.int add tt))
  hlk : cl.lookup y = some cc
  hn : n₀ + 1 < scanBound
  hcs : cStatics ≠ I
  h : ∀ a s₅, (∀ (Qs : Value → Shared → Prop) (Es : Value → Shared → Prop), (∀ S s' c', s' = { s with heap := s'.heap, gens := s'.gens, toks := s'.toks } → (∀ b o, b ≠ P → b ≠ I → s.heap.get? b = some o → s'.heap.get? b = some o) →
        s'.heap.IsCode c P (ps ++ #[rawInt pos.line, rawInt pos.col, .ref c']) → s'.heap.TableAt c P (ps ++ #[rawInt pos.line, rawInt pos.col, .ref c']) → Gk s.gens s'.gens → s.heap.get? S = none →
        s'.heap.SetOf (intKind prog w) S (fun k => (firstMet (fun i : Nat => a0 + (i : Int) * st + add) n₀).any (· == k)) (firstMet (fun i : Nat => a0 + (i : Int) * st + add) n₀).length → Qs (.ref S) s') →
      wpAny (model prog w) A (call (.type "set") [.ref a]) Qs Es s₅) → Q (.ref a) s₅
theorem genexprEval {Q : Value → Shared → Prop} (hh : A.handled = none) (hco : scope.isCoroutine = false) (hclos : closureFor scope env = pure cl) (hcell : ∀ y ∈ scope.names, y.2 ≠ .cell) (h0 : scope.names.lookup (".0" : Str) = some NameKind.local)
    (hkx : scope.names.lookup x = some .local) (hky : scope.names.lookup y = some .free) (hkind : scope.kind = .function) (hxd : (x == ("__debug__" : Str)) = false) (hyd : (y == ("__debug__" : Str)) = false) (hyc : (y == ("__classdict__" : Str)) = false) (hroom : A.depth < recursionLimit)
    (h : wpAny (model prog w) A (eval iter env) (fun xv s₁ => wpAny (model prog w) A (pyIter xv) (fun it s₂ => ∃ I mg bm ob c P cc ps a0 st add n₀ tt, it = .ref I ∧ GenPre prog w A env pos cl y Q I s₂ mg bm ob c P cc ps a0 st add n₀ tt) E s₁) E s)
    (hs : ∀ x, genFold iter env x = pure x) :
    wpAny (model prog w) A (eval (.GeneratorExp (.BinOp (.Name x px) .Add (.Name y py) bp) [⟨.Name x px2, iter, [], 0⟩] scope pos) env) Q E s := by
  refine wpAny_GeneratorExp_walksQ hh hco hclos hcell h0 hkx hkind hroom (wpAny_mono h (fun xv s₁ h₁ => wpAny_mono h₁ (fun it s₂ h₂ => ?_) fun _ _ z => z) fun _ _ z => z) hs
  obtain ⟨I, mg, bm, ob, c, P, cc, ps, a0, st, add, n₀, tt, rfl, G⟩ := h₂
  exact genexprSet hh G.M G.hl G.hcode G.hg G.hC G.hT G.hnf G.hI G.hcell G.hlk hkx hky hkind hxd hyd hyc G.hn G.hcs G.h
end
end Mine
end
section
open PySem PySem.W PyProof.Rows PySem.Calls
set_option linter.unusedVariables false
namespace Mine
set_option maxRecDepth 100000
set_option maxHeartbeats 400000
local macro_rules | `(tactic| walk_at "eval Name") => `(tactic| (with_unfolding_all refine' ldL ?F ?v ?_ ?k ?l ?d; (case F => assumption); (case k => rfl); (case l => rfl); (case d => rfl); (case v => first | assumption | rfl)))
local macro_rules | `(tactic| walk_at "eval Name") => `(tactic| (with_unfolding_all refine' ldG ?T ?F ?e ?_ ?k ?g ?x ?d; (case T => assumption); (case F => assumption); (case k => rfl); (case g => rfl); (case x => rfl); (case d => rfl); (case e => rfl)))
local macro_rules | `(tactic| walk_at "eval Name") => `(tactic| (with_unfolding_all refine' ldB ?T ?F ?e ?v ?n ?_ ?k ?g ?b ?x ?d; (case T => assumption); (case F => assumption); (case k => rfl); (case g => rfl); (case b => rfl); (case x => rfl); (case d => rfl); (case e => rfl); (case v => boot_fast); (case n => decide)))
local macro_rules | `(tactic| walk_at "storeName") => `(tactic| (with_unfolding_all refine' stL ?F ?_ ?k ?l; (case F => assumption); (case k => rfl); (case l => rfl); intro h' F'))
local macro_rules | `(tactic| walk_at "callWith ref") => `(tactic| (with_unfolding_all refine' callWith_K (K := KK _) ?X ?k ?_; (case X => exact (Txt.k (by assumption))); (case k => rfl)))
local macro_rules | `(tactic| walk_at "callWith ref") => `(tactic| (with_unfolding_all refine' callWith_K0 (K := KK _) ?X ?k ?_; (case X => exact (Txt.keeps (by assumption) (Loc.st (by assumption))).k); (case k => rfl)))
local macro_rules | `(tactic| walk_at "And") => `(tactic| (refine ⟨(Txt.keeps (by assumption) (Loc.st (by assumption))).k, ?_⟩))
local macro_rules | `(tactic| walk_at "assign Tuple") => `(tactic| (refine' unpackL ?F ?hh ?ht ?hc ?hd ?hn ?hs ?_; (case F => assumption); (case hh => assumption); (case ht => assumption); (case hc => rfl); (case hd => rfl); (case hn => rfl); (case hs => rfl); intro h' F' k'))
local macro_rules | `(tactic| walk_at "tree") => `(tactic| first | (with_reducible show wpAny _ _ _ _ _ _) | (with_reducible show (if _ then _ else _)) | (with_reducible show Frag.In _ _ ∧ _))
local macro_rules | `(tactic| walk_at "mw") => `(tactic| repeat' (first | (walk_at "tree"; walk1) | (dsimp only; walk_at "tree"; walk1)))
local macro_rules | `(tactic| walk_at "newTuple") => `(tactic| (refine newTupleL (by assumption) (fun h' a' F' ka na Na oa => ?_)))
local macro_rules | `(tactic| walk_at "exec Assign") => `(tactic| (with_reducible refine plainObj_wpAny_Assign_Attribute ?_ ?_; rotate_left; with_unfolding_all rfl))
theorem nm_ne : ∀ p, p < 20 → ∀ m, m < p → ((nmS m).cps.toList == (nmS p).cps.toList) = false := by decide +kernel
theorem nm_eq : ∀ p, p < 20 → ((nmS p).cps.toList == (nmS p).cps.toList) = true := by decide +kernel
theorem tz_at {i : Nat} (h : i < tz.toArray.size) : tz.toArray[i] = .str (nmS i) (289 + i) := by
  have hs : tz.toArray.size = 20 := rfl
  have := tz_get (i := i) (by omega)
  rw [List.getElem?_eq_getElem (by simpa using h)] at this
  simpa using this
theorem tz_mem {y : Value} (h : y ∈ tz.toArray) : ∃ i, i < 20 ∧ y = .str (nmS i) (289 + i) := by
  obtain ⟨i, hi, rfl⟩ := Array.mem_iff_getElem.mp h
  exact ⟨i, by have : tz.toArray.size = 20 := rfl; omega, tz_at hi⟩
section
variable {prog : Program} {w : World} {A : Around} {E : Value → Shared → Prop} {s : Shared}
def isNm (x : Str) : Value → Bool
  | .str y _ => y.cps.toList == x.cps.toList
  | _ => false
theorem indexTz {p : Nat} {u : Tok} {Q : Value → Shared → Prop} (X : (KK w).In s.heap) (hp : p < 20) (h : Q (.int p s.toks) { s with toks := s.toks + 1 }) :
    wpAny (model prog w) A (call (.builtin "list.index") [.ref 83, .str (nmS p) u]) Q E s := by
  have ho := X 83 _ (tz_lookup w)
  refine call_meets PySem.F.slot_list_index ⟨_, ho, rfl⟩ PySem.F.entry_list_index (PySem.F.args_list_index_2 _ _)
    (SeqAt.list_indexAt 83 tz.toArray 0 none #[] (.str (nmS p) u) (isNm (nmS p)) p (by show p < 20; exact hp) (by omega) ?_ ?_) ⟨ho, fun y hy => ?_, h⟩
  · rw [tz_at (by show p < 20; exact hp)]; exact nm_eq p hp
  · intro m hm hlt
    rw [tz_at hm]; exact nm_ne p hp m hlt
  · obtain ⟨i, hi, rfl⟩ := tz_mem hy
    exact (SeqRoads2.EqGives.str _ _ _ _).at _ _
theorem setMethod {name : Str} {id : String} {a : Addr} {S : Int → Bool} {n : Nat} {pl : Sem Bool} {Q : Value × List Value → Shared → Prop} (slot : Slot "set" name id) (hty : typeOf (.builtin id) = pure (.type "method_descriptor")) (hS : s.heap.SetOf (intKind prog w) a S n) (h : Q (.builtin id, [.ref a]) s) :
    wpAny (model prog w) A (getMethod (.ref a) name pl) Q E s := getMethod_builtin hS.typeIs F.plainAttrs_set slot hty hS.noDict h
theorem stC {env : Env} {x : Str} {c : Addr} {v₀ : Option Value} {v : Value} {Q : Unit → Shared → Prop} (hk : env.scope.kind = .function) (hl : env.kindOf x = some .cell) (hc : env.cells.lookup x = some c) (hv : s.heap.IsCell c v₀)
    (h : ∀ h', h'.IsCell c (some v) → Heap.SameBut c s.heap h' → Q () { s with heap := h' }) : wpAny (model prog w) A (storeName env x v) Q E s := wpAny_storeName_cell hk hl hc hv h
end
end Mine
end
section
open PySem PySem.W PyProof.Rows PySem.Calls
set_option linter.unusedVariables false
namespace Mine
set_option maxRecDepth 100000
set_option maxHeartbeats 400000
local macro_rules | `(tactic| walk_at "eval Name") => `(tactic| (with_unfolding_all refine' ldL ?F ?v ?_ ?k ?l ?d; (case F => assumption); (case k => rfl); (case l => rfl); (case d => rfl); (case v => first | assumption | rfl)))
local macro_rules | `(tactic| walk_at "eval Name") => `(tactic| (with_unfolding_all refine' ldG ?T ?F ?e ?_ ?k ?g ?x ?d; (case T => assumption); (case F => assumption); (case k => rfl); (case g => rfl); (case x => rfl); (case d => rfl); (case e => rfl)))
local macro_rules | `(tactic| walk_at "eval Name") => `(tactic| (with_unfolding_all refine' ldB ?T ?F ?e ?v ?n ?_ ?k ?g ?b ?x ?d; (case T => assumption); (case F => assumption); (case k => rfl); (case g => rfl); (case b => rfl); (case x => rfl); (case d => rfl); (case e => rfl); (case v => boot_fast); (case n => decide)))
local macro_rules | `(tactic| walk_at "storeName") => `(tactic| (with_unfolding_all refine' stL ?F ?_ ?k ?l; (case F => assumption); (case k => rfl); (case l => rfl); intro h' F'))
local macro_rules | `(tactic| walk_at "callWith ref") => `(tactic| (with_unfolding_all refine' callWith_K (K := KK _) ?X ?k ?_; (case X => exact (Txt.k (by assumption))); (case k => rfl)))
local macro_rules | `(tactic| walk_at "callWith ref") => `(tactic| (with_unfolding_all refine' callWith_K0 (K := KK _) ?X ?k ?_; (case X => exact (Txt.keeps (by assumption) (Loc.st (by assumption))).k); (case k => rfl)))
local macro_rules | `(tactic| walk_at "And") => `(tactic| (refine ⟨(Txt.keeps (by assumption) (Loc.st (by assumption))).k, ?_⟩))
local macro_rules | `(tactic| walk_at "assign Tuple") => `(tactic| (refine' unpackL ?F ?hh ?ht ?hc ?hd ?hn ?hs ?_; (case F => assumption); (case hh => assumption); (case ht => assumption); (case hc => rfl); (case hd => rfl); (case hn => rfl); (case hs => rfl); intro h' F' k'))
local macro_rules | `(tactic| walk_at "tree") => `(tactic| first | (with_reducible show wpAny _ _ _ _ _ _) | (with_reducible show (if _ then _ else _)) | (with_reducible show Frag.In _ _ ∧ _))
local macro_rules | `(tactic| walk_at "mw") => `(tactic| repeat' (first | (walk_at "tree"; walk1) | (dsimp only; walk_at "tree"; walk1)))
local macro_rules | `(tactic| walk_at "newTuple") => `(tactic| (refine newTupleL (by assumption) (fun h' a' F' ka na Na oa => ?_)))
local macro_rules | `(tactic| walk_at "exec Assign") => `(tactic| (with_reducible refine plainObj_wpAny_Assign_Attribute ?_ ?_; rotate_left; with_unfolding_all rfl))
local macro_rules | `(tactic| walk_at "eval Name") => `(tactic| (with_unfolding_all refine' ldC ?F ?c ?v ?_ ?k ?l ?d; (case F => assumption); (case k => rfl); (case l => rfl); (case d => rfl); (case c => rfl); (case v => assumption)))
theorem ne_add2 (n : Nat) : n + 2 ≠ n := by omega
theorem ne_add2' {a n : Nat} (h : a < n) : n + 2 ≠ a := by omega
abbrev tab (ps : Array Value) : Obj := { cls := .none, data := .fields ps }
theorem code96 {w : World} {h : Heap} {ps : Array Value} (X : (KK w).In h) (hT : h.get? 92 = some (tab ps)) (ht : TriplesOk ps.toList) : h.IsCode 96 92 ps ∧ h.TableAt 96 92 ps :=
  ⟨⟨_, _, _, _, _, _, _, _, _, _, X 96 _ rfl, rfl, rfl, rfl, rfl, rfl, rfl, hT, rfl, ht, by decide⟩, ⟨_, _, X 96 _ rfl, rfl, rfl, rfl⟩, hT⟩
section
variable {prog : Program} {w : World} {A : Around} {s : Shared} {mg mb : Str → Option Value} {R : Result → Shared → Prop} {B : Heap} {d : Int} {t u : Tok} {p : Nat} {bm : Addr} {ob : Obj}
theorem count_spec (T : Txt w mg mb B) (hB : B.StaysIn s.heap) (M : BMod B mainGlobals mg bm ob) (hh : A.handled = none) (hroom : A.depth + 8 < recursionLimit) (hU : A.units + 20 < cLine) (hTab : s.heap.get? 92 = some (tab #[])) (hB92 : B.get? 92 = none)
    (h1 : 1 ≤ d) (h2 : d ≤ 13) (hp : p < 20)
    (h : ∀ h' g' d' tk' t', (∀ b o, b ≠ 92 → s.heap.get? b = some o → h'.get? b = some o) → (∃ ps, h'.get? 92 = some (tab ps)) → Gk s.gens g' → R (.ok (.ret (.int (cnt d p) t'))) { s with heap := h', gens := g', drawn := d', toks := tk' }) :
    codeAny (model prog w) A (.call (.ref 97) ⟨[.int d t, .str (nmS p) u], []⟩) R s := by
  refine enterC (T.keeps hB) (by omega) ⟨_, rfl, rfl⟩ rfl fun h₀ tk₀ k₀ ns₀ c₀ d₀ => ?_
  have hBL : B.get? s.heap.objs.size = none := Heap.StaysIn.fresh hB
  have hB₀ : B.StaysIn h₀ := StaysIn.trans hB k₀
  have F₀ : Loc (h₀.hide s.heap.objs.size) s.heap.objs.size h₀ _ := ⟨ns₀, fun _ _ e => Heap.of_hide e, Heap.hide_self ..⟩
  have T₀ : Txt w mg mb (h₀.hide s.heap.objs.size) := T.keeps (StaysIn.hide hB₀ _ hBL)
  have c₁ := Loc.cellInn c₀ (Nat.succ_ne_self _)
  walk_at "mw"
  all_goals first | (exfalso; omega) | skip
  refine genexprEval (cl := [(Str.ofString "day", s.heap.objs.size + 1)]) ?hh ?hco ?hclos ?hcell ?h0 ?hkx ?hky ?hkind ?hxd ?hyd ?hyc ?hroom ?h ?hs
  case hh => exact hh
  case hco => rfl
  case hclos => rfl
  case hcell => decide
  case h0 => rfl
  case hkx => rfl
  case hky => rfl
  case hkind => rfl
  case hxd => decide
  case hyd => decide
  case hyc => decide
  case hroom => show A.depth + 1 < recursionLimit; omega
  case hs => exact fun _ => rfl
  walk_at "mw"
  refine rangeL3 F₀ (by decide) fun h₁ r F₁ k₁ hr => ?_
  walk_at "mw"
  refine iterRangeL F₁ hr (by decide) fun h₂ I F₂ k₂ nI hI => ?_
  have B₂ : B.StaysIn h₂ := fun b o e => F₂.st _ _ (StaysIn.hide hB₀ _ hBL _ _ e)
  have hT₂ : h₂.get? 92 = some (tab #[]) := F₂.st _ _ (F₀.inn (k₀ _ _ hTab) (ne_of_get hTab (Heap.get?_none_of_le (Nat.le_refl _))))
  obtain ⟨hC, hTa⟩ := code96 (T.keeps B₂).k hT₂ trivial
  have hl₂ := (T.keeps B₂).t.nolimit
  have hcs : cStatics ≠ I := by
    have hl₁ := (T₀.keeps F₁.st).t.nolimit
    obtain ⟨_, ⟨o, _, _, ho, _⟩, _⟩ := hl₁
    exact ne_of_get ho nI
  refine ⟨I, mg, bm, ob, 96, 92, s.heap.objs.size + 1, #[], 0, 13, d, 20, t, rfl, ?_⟩
  refine { M := ?M, hl := hl₂, hcode := ?hcode, hg := ?hg, hC := hC, hT := hTa, hnf := ?hnf, hI := ?hI, hcell := ?hcell, hlk := ?hlk, hn := ?hn, hcs := hcs, h := ?hq }
  case M => exact M.keeps B₂
  case hcode => rfl
  case hg => rfl
  case hnf => rfl
  case hI => exact hI
  case hcell => exact Heap.IsCell.keeps c₁ F₂.st
  case hlk => rfl
  case hn => decide
  intro a s₅ call₅
  walk_at "mw"
  refine call₅ _ _ fun S₁ s₆ g₁ e₆ k₆ code₆ tab₆ gk₆ nS₁ hS₁ => ?_
  obtain ⟨h₆, gens₆, dr₆, tk₆, os₆⟩ := s₆
  cases e₆
  dsimp only at nS₁ k₆ code₆ tab₆ gk₆ hS₁ nI
  have L92 : s.heap.objs.size ≠ 92 := (ne_of_get hTab (Heap.get?_none_of_le (Nat.le_refl _))).symm
  have LI : s.heap.objs.size ≠ I := (F₁.ne nI).symm
  have hI' : ∀ b o, (h₀.hide s.heap.objs.size).get? b = some o → b ≠ I := fun b o e => ne_of_get (F₁.st _ _ e) nI
  have B₆ : B.StaysIn h₆ := fun b o e => k₆ b o (ne_of_get e hB92) (hI' _ _ (StaysIn.hide hB₀ _ hBL _ _ e)) (B₂ _ _ e)
  have c2' : (h₀.hide s.heap.objs.size).IsCell (s.heap.objs.size + 2) none := Loc.cellInn d₀ (ne_add2 _)
  have F₆ : Loc (h₆.hide s.heap.objs.size) s.heap.objs.size h₆ _ := ⟨F₂.ns.at' fun o e => k₆ _ _ L92 LI e, fun _ _ e => Heap.of_hide e, Heap.hide_self ..⟩
  have T₆ : Txt w mg mb (h₆.hide s.heap.objs.size) := T.keeps (StaysIn.hide B₆ _ hBL)
  have kp₆ : ∀ b o, b ≠ 92 → s.heap.get? b = some o → h₆.get? b = some o := fun b o q e => by
    have e0 : (h₀.hide s.heap.objs.size).get? b = some o := F₀.inn (k₀ _ _ e) (ne_of_get e (Heap.get?_none_of_le (Nat.le_refl _)))
    exact k₆ b o q (hI' _ _ e0) (F₂.st _ _ e0)
  have n₆ : h₆.IsCell (s.heap.objs.size + 2) none := by
    obtain ⟨o, ho, hd⟩ := c2'
    exact ⟨o, k₆ _ o (ne_add2' (Heap.lt_size hTab)) (hI' _ _ ho) (F₂.st _ _ ho), hd⟩
  have hS₁L : S₁ ≠ s.heap.objs.size := F₂.ne nS₁
  have hS₁c : S₁ ≠ s.heap.objs.size + 2 := by
    obtain ⟨o, ho, _⟩ := c2'
    exact (ne_of_get (F₂.st _ _ ho) nS₁).symm
  have hS₁t : S₁ ≠ 92 := (ne_of_get hT₂ nS₁).symm
  clear F₀ F₁ F₂ T₀ code₆
  walk_at "mw"
  rename_i h₇ F₇
  refine wpAny_Try_except ?_
  walk_at "mw"
  refine getMethod_list_of PySem.F.slot_list_index PySem.F.type_list_index (tz_list (T₆.keeps F₇.st).k) ⟨_, (T₆.keeps F₇.st).k 83 _ (tz_lookup w), rfl⟩ ?_
  walk_at "mw"
  refine indexTz (T₆.keeps F₇.st).k hp ?_
  walk_at "mw"
  refine stC (v₀ := none) rfl rfl rfl (Heap.IsCell.keeps (Loc.cellInn n₆ (ne_add2 _)) F₇.st) fun h₈ hc₈ hs₈ => ?_
  have hs₈' : Heap.SameBut (s.heap.objs.size + 2) h₇ h₈ := hs₈
  obtain ⟨tn, nc₈⟩ : ∃ tn, h₈.IsCell (s.heap.objs.size + 2) (some (.int (1 + (p : Int)) tn)) := ⟨_, hc₈⟩
  clear hs₈ hc₈
  have F₈ : Loc (h₈.hide s.heap.objs.size) s.heap.objs.size h₈ _ := ⟨F₇.ns.at' fun o e => (hs₈'.2 _ (ne_add2 _).symm).trans e, fun _ _ e => Heap.of_hide e, Heap.hide_self ..⟩
  have k₈ : ∀ b o, b ≠ s.heap.objs.size → b ≠ s.heap.objs.size + 2 → h₆.get? b = some o → h₈.get? b = some o := fun b o q1 q2 e => (hs₈'.2 b q2).trans (F₇.st _ _ (F₆.inn e q1))
  have B₈ : B.StaysIn h₈ := fun b o e => k₈ b o (ne_of_get e hBL) (fun q => ne_add2' (Heap.lt_size (hB _ _ e)) q.symm) (B₆ _ _ e)
  have T₈ : Txt w mg mb (h₈.hide s.heap.objs.size) := T.keeps (StaysIn.hide B₈ _ hBL)
  have hS₈ := SetOf.keeps hS₁ fun o e => k₈ _ o hS₁L hS₁c e
  have tb₈ : h₈.get? 92 = some (tab (#[] ++ #[rawInt 72, rawInt 15, Value.ref g₁])) := k₈ _ _ L92.symm (ne_add2' (Heap.lt_size hTab)).symm tab₆.2
  have kp₈ : ∀ b o, b ≠ 92 → s.heap.get? b = some o → h₈.get? b = some o := fun b o q e => k₈ b o (ne_of_get e (Heap.get?_none_of_le (Nat.le_refl _))) (fun q => ne_add2' (Heap.lt_size e) q.symm) (kp₆ b o q e)
  have nc₈' := Loc.cellInn nc₈ (ne_add2 _)
  clear F₆ F₇ T₆ tab₆ hS₁
  dsimp only
  walk_at "mw"
  refine genexprEval (cl := [(Str.ofString "n", s.heap.objs.size + 2)]) ?hh ?hco ?hclos ?hcell ?h0 ?hkx ?hky ?hkind ?hxd ?hyd ?hyc ?hroom ?hgo ?hs
  case hh => exact hh
  case hco => rfl
  case hclos => rfl
  case hcell => decide
  case h0 => rfl
  case hkx => rfl
  case hky => rfl
  case hkind => rfl
  case hxd => decide
  case hyd => decide
  case hyc => decide
  case hroom => show A.depth + 1 < recursionLimit; omega
  case hs => exact fun _ => rfl
  walk_at "mw"
  refine rangeL3 F₈ (by decide) fun h₉ r₂ F₉ k₉ hr₂ => ?_
  walk_at "mw"
  refine iterRangeL F₉ hr₂ (by decide) fun h₁₀ I₂ F₁₀ k₁₀ nI₂ hI₂ => ?_
  dsimp only at k₉ k₁₀ nI₂
  have B₁₀ : B.StaysIn h₁₀ := fun b o e => F₁₀.st _ _ (StaysIn.hide B₈ _ hBL _ _ e)
  have tb₁₀ := F₁₀.st _ _ (F₈.inn tb₈ L92.symm)
  obtain ⟨hC₂, hTa₂⟩ := code96 (T.keeps B₁₀).k tb₁₀ trivial
  have hl₁₀ := (T.keeps B₁₀).t.nolimit
  have hcs₂ : cStatics ≠ I₂ := by
    have hl₁ := (T₈.keeps F₉.st).t.nolimit
    obtain ⟨_, ⟨o, _, _, ho, _⟩, _⟩ := hl₁
    exact ne_of_get ho nI₂
  refine ⟨I₂, mg, bm, ob, 96, 92, s.heap.objs.size + 2, #[] ++ #[rawInt 72, rawInt 15, Value.ref g₁], 0, 20, 1 + (p : Int), 13, tn, rfl, ?_⟩
  refine { M := ?M2, hl := hl₁₀, hcode := ?hcode2, hg := ?hg2, hC := hC₂, hT := hTa₂, hnf := ?hnf2, hI := ?hI2, hcell := ?hcell2, hlk := ?hlk2, hn := ?hn2, hcs := hcs₂, h := ?hq2 }
  case M2 => exact M.keeps B₁₀
  case hcode2 => rfl
  case hg2 => rfl
  case hnf2 => rfl
  case hI2 => exact hI₂
  case hcell2 => exact Heap.IsCell.keeps nc₈' F₁₀.st
  case hlk2 => rfl
  case hn2 => decide
  intro a₂ s₁₁ call₁₁
  walk_at "mw"
  refine call₁₁ _ _ fun S₂ s₁₂ g₂ e₁₂ k₁₂ code₁₂ tab₁₂ gk₁₂ nS₂ hS₂ => ?_
  obtain ⟨h₁₂, gens₁₂, dr₁₂, tk₁₂, os₁₂⟩ := s₁₂
  cases e₁₂
  dsimp only at nS₂ k₁₂ gk₁₂ hS₂
  have LI₂ : s.heap.objs.size ≠ I₂ := (F₉.ne nI₂).symm
  have hI₂' : ∀ b o, (h₈.hide s.heap.objs.size).get? b = some o → b ≠ I₂ := fun b o e => ne_of_get (F₉.st _ _ e) nI₂
  have B₁₂ : B.StaysIn h₁₂ := fun b o e => k₁₂ b o (ne_of_get e hB92) (hI₂' _ _ (StaysIn.hide B₈ _ hBL _ _ e)) (B₁₀ _ _ e)
  have F₁₂ : Loc (h₁₂.hide s.heap.objs.size) s.heap.objs.size h₁₂ _ := ⟨F₁₀.ns.at' fun o e => k₁₂ _ _ L92 LI₂ e, fun _ _ e => Heap.of_hide e, Heap.hide_self ..⟩
  have T₁₂ : Txt w mg mb (h₁₂.hide s.heap.objs.size) := T.keeps (StaysIn.hide B₁₂ _ hBL)
  have kk₁₂ : ∀ b o, b ≠ 92 → b ≠ s.heap.objs.size → h₈.get? b = some o → h₁₂.get? b = some o := fun b o q1 q2 e => k₁₂ b o q1 (hI₂' _ _ (F₈.inn e q2)) (F₁₀.st _ _ (F₈.inn e q2))
  have hS₁₂ := SetOf.keeps hS₈ fun o e => kk₁₂ _ o hS₁t hS₁L e
  have hS₂L : S₂ ≠ s.heap.objs.size := F₁₀.ne nS₂
  have hSS : S₁ ≠ S₂ := by
    obtain ⟨o, _, _, _, ho, _⟩ := hS₈
    exact ne_of_get (F₁₀.st _ _ (F₈.inn ho hS₁L)) nS₂
  clear F₈ F₉ F₁₀ T₈
  walk_at "mw"
  rename_i h₁₃ F₁₃
  have hS₁₃ := SetOf.keeps hS₁₂ fun o e => F₁₃.st _ _ (F₁₂.inn e hS₁L)
  have hN₁₃ := SetOf.keeps hS₂ fun o e => F₁₃.st _ _ (F₁₂.inn e hS₂L)
  refine setMethod F.slot_set_intersection F.type_set_intersection hS₁₃ ?_
  walk_at "mw"
  obtain ⟨i₁, hi₁, e₁⟩ := cnt_in1 h1 h2 hp
  obtain ⟨i₂, hi₂, e₂⟩ := cnt_in2 h1 h2 hp
  refine interCall (c := cnt d p) hS₁₃ hN₁₃ hSS ?hnm ?hc1 ?hc2 ?hu fun h₁₄ k₁₄ hR₁₄ => ?_
  case hnm =>
    rw [firstMet_len (fun i j q => by omega), firstMet_len (fun i j q => by omega)]
    decide
  case hc1 => exact firstMet_mem.mpr ⟨i₁, hi₁, e₁⟩
  case hc2 => exact firstMet_mem.mpr ⟨i₂, hi₂, e₂⟩
  case hu =>
    intro k q1 q2
    obtain ⟨i, hi, rfl⟩ := firstMet_mem.mp q1
    obtain ⟨j, hj, q⟩ := firstMet_mem.mp q2
    exact cnt_only h1 h2 hp hi hj q.symm
  refine setMethod F.slot_set_pop F.type_set_pop hR₁₄ ?_
  walk_at "mw"
  refine popOne hR₁₄ fun h₁₅ d₁₅ t₁₅ hs₁₅ => ?_
  dsimp only
  have e92 : h₁₃.get? 92 = some _ := F₁₃.st _ _ (F₁₂.inn tab₁₂.2 L92.symm)
  refine h h₁₅ _ _ _ _ (fun b o q e => ?_) ⟨_, (hs₁₅.2 92 (Nat.ne_of_lt (Heap.lt_size e92))).trans (k₁₄ _ _ e92)⟩ (gk₆.trans gk₁₂)
  have e13 : h₁₃.get? b = some o := F₁₃.st _ _ (F₁₂.inn (kk₁₂ b o q (ne_of_get e (Heap.get?_none_of_le (Nat.le_refl _))) (kp₈ b o q e)) (ne_of_get e (Heap.get?_none_of_le (Nat.le_refl _))))
  exact (hs₁₅.2 b (Nat.ne_of_lt (Heap.lt_size e13))).trans (k₁₄ _ _ e13)
end
end Mine
end
section
open PySem PySem.W PyProof.Rows PySem.Calls
set_option linter.unusedVariables false
namespace Mine
set_option maxRecDepth 100000
set_option maxHeartbeats 400000
local macro_rules | `(tactic| walk_at "eval Name") => `(tactic| (with_unfolding_all refine' ldL ?F ?v ?_ ?k ?l ?d; (case F => assumption); (case k => rfl); (case l => rfl); (case d => rfl); (case v => first | assumption | rfl)))
local macro_rules | `(tactic| walk_at "eval Name") => `(tactic| (with_unfolding_all refine' ldG ?T ?F ?e ?_ ?k ?g ?x ?d; (case T => assumption); (case F => assumption); (case k => rfl); (case g => rfl); (case x => rfl); (case d => rfl); (case e => rfl)))
local macro_rules | `(tactic| walk_at "eval Name") => `(tactic| (with_unfolding_all refine' ldB ?T ?F ?e ?v ?n ?_ ?k ?g ?b ?x ?d; (case T => assumption); (case F => assumption); (case k => rfl); (case g => rfl); (case b => rfl); (case x => rfl); (case d => rfl); (case e => rfl); (case v => boot_fast); (case n => decide)))
local macro_rules | `(tactic| walk_at "storeName") => `(tactic| (with_unfolding_all refine' stL ?F ?_ ?k ?l; (case F => assumption); (case k => rfl); (case l => rfl); intro h' F'))
local macro_rules | `(tactic| walk_at "callWith ref") => `(tactic| (with_unfolding_all refine' callWith_K (K := KK _) ?X ?k ?_; (case X => exact (Txt.k (by assumption))); (case k => rfl)))
local macro_rules | `(tactic| walk_at "callWith ref") => `(tactic| (with_unfolding_all refine' callWith_K0 (K := KK _) ?X ?k ?_; (case X => exact (Txt.keeps (by assumption) (Loc.st (by assumption))).k); (case k => rfl)))
local macro_rules | `(tactic| walk_at "And") => `(tactic| (refine ⟨(Txt.keeps (by assumption) (Loc.st (by assumption))).k, ?_⟩))
local macro_rules | `(tactic| walk_at "assign Tuple") => `(tactic| (refine' unpackL ?F ?hh ?ht ?hc ?hd ?hn ?hs ?_; (case F => assumption); (case hh => assumption); (case ht => assumption); (case hc => rfl); (case hd => rfl); (case hn => rfl); (case hs => rfl); intro h' F' k'))
local macro_rules | `(tactic| walk_at "tree") => `(tactic| first | (with_reducible show wpAny _ _ _ _ _ _) | (with_reducible show (if _ then _ else _)) | (with_reducible show Frag.In _ _ ∧ _))
local macro_rules | `(tactic| walk_at "mw") => `(tactic| repeat' (first | (walk_at "tree"; walk1) | (dsimp only; walk_at "tree"; walk1)))
local macro_rules | `(tactic| walk_at "newTuple") => `(tactic| (refine newTupleL (by assumption) (fun h' a' F' ka na Na oa => ?_)))
local macro_rules | `(tactic| walk_at "exec Assign") => `(tactic| (with_reducible refine plainObj_wpAny_Assign_Attribute ?_ ?_; rotate_left; with_unfolding_all rfl))
section
variable {prog : Program} {w : World} {A : Around} {s : Shared} {mg mb : Str → Option Value} {R : Result → Shared → Prop} {fd : FuncData} {body : List Stmt}
/-- the generator's text -/
def IsGenFd (w : World) (fd : FuncData) (body : List Stmt) : Prop := (∃ o, (KK w).lookup 105 = some o ∧ o.data = .func fd) ∧ fd.body = .stmts body
def gm (nv xv : Value) : Str → Option Value := fun x => List.lookup x [(Str.ofString "number", nv), (Str.ofString "name", xv)].reverse
theorem gen_make (T : Txt w mg mb s.heap) (hroom : A.depth < recursionLimit) (hg : IsGenFd w fd body) {args : List Value} {nv xv : Value} (ha : args = [nv, xv] ∨ (args = [] ∧ nv = .none ∧ xv = .none))
    (h : ∀ h' G L tk, s.heap.StaysIn h' → s.heap.get? G = none → s.heap.get? L = none → G ≠ L → h'.IsGen G s.gens.size → h'.Ns L (gm nv xv) → R (.ok (.ret (.ref G))) { s with heap := h', gens := s.gens.push (.fresh (.func body (callEnv fd L 105))), toks := tk }) :
    codeAny (model prog w) A (.call (.ref 105) ⟨args, []⟩) R s := by
  obtain ⟨⟨o, ho, hd⟩, hb⟩ := hg
  have e := (rfl : (KK w).lookup 105 = some _)
  rw [e] at ho
  cases ho
  cases hd
  cases hb
  refine codeAny_call_generator hroom (T.k 105 _ rfl) rfl rfl rfl rfl (codeRec_of T.k rfl) ?_
  rcases ha with rfl | ⟨rfl, rfl, rfl⟩
  · refine BindsTo.of_defaults (binds := [(Str.ofString "number", nv), (Str.ofString "name", xv)]) rfl (T.k _ _ rfl) rfl rfl rfl _ _ _ _ ?_
    refine wpAny_newFunctionEnv (by decide) (locs rfl) (fun h₀ hns hsb => ⟨T.t.nolimit.fresh _ hsb, ?_⟩) rfl
    have k₀ : s.heap.StaysIn h₀ := fun b o e => hsb.extBut b o (Nat.ne_of_lt (Heap.lt_size e)) (Heap.get?_push_of_some _ e)
    refine h _ _ s.heap.objs.size _ (fun b o e => Heap.get?_push_of_some _ (k₀ _ _ e)) (Heap.get?_none_of_le ?_) (Heap.get?_none_of_le (Nat.le_refl _)) ?_ ⟨_, _, _, Heap.get?_push_size _ rfl, rfl, rfl, rfl⟩ (hns.push _)
    · exact Nat.le_of_lt (hns.lt)
    · exact Nat.ne_of_gt hns.lt
  · refine BindsTo.of_defaults (binds := [(Str.ofString "number", .none), (Str.ofString "name", .none)]) rfl (T.k _ _ rfl) rfl rfl rfl _ _ _ _ ?_
    refine wpAny_newFunctionEnv (by decide) (locs rfl) (fun h₀ hns hsb => ⟨T.t.nolimit.fresh _ hsb, ?_⟩) rfl
    have k₀ : s.heap.StaysIn h₀ := fun b o e => hsb.extBut b o (Nat.ne_of_lt (Heap.lt_size e)) (Heap.get?_push_of_some _ e)
    refine h _ _ s.heap.objs.size _ (fun b o e => Heap.get?_push_of_some _ (k₀ _ _ e)) (Heap.get?_none_of_le ?_) (Heap.get?_none_of_le (Nat.le_refl _)) ?_ ⟨_, _, _, Heap.get?_push_size _ rfl, rfl, rfl, rfl⟩ (hns.push _)
    · exact Nat.le_of_lt (hns.lt)
    · exact Nat.ne_of_gt hns.lt
end
end Mine
end
section
open PySem PySem.W PyProof.Rows PySem.Calls
set_option linter.unusedVariables false
namespace Mine
set_option maxRecDepth 100000
set_option maxHeartbeats 400000
local macro_rules | `(tactic| walk_at "eval Name") => `(tactic| (with_unfolding_all refine' ldL ?F ?v ?_ ?k ?l ?d; (case F => assumption); (case k => rfl); (case l => rfl); (case d => rfl); (case v => first | assumption | rfl)))
local macro_rules | `(tactic| walk_at "eval Name") => `(tactic| (with_unfolding_all refine' ldG ?T ?F ?e ?_ ?k ?g ?x ?d; (case T => assumption); (case F => assumption); (case k => rfl); (case g => rfl); (case x => rfl); (case d => rfl); (case e => rfl)))
local macro_rules | `(tactic| walk_at "eval Name") => `(tactic| (with_unfolding_all refine' ldB ?T ?F ?e ?v ?n ?_ ?k ?g ?b ?x ?d; (case T => assumption); (case F => assumption); (case k => rfl); (case g => rfl); (case b => rfl); (case x => rfl); (case d => rfl); (case e => rfl); (case v => boot_fast); (case n => decide)))
local macro_rules | `(tactic| walk_at "storeName") => `(tactic| (with_unfolding_all refine' stL ?F ?_ ?k ?l; (case F => assumption); (case k => rfl); (case l => rfl); intro h' F'))
local macro_rules | `(tactic| walk_at "callWith ref") => `(tactic| (with_unfolding_all refine' callWith_K (K := KK _) ?X ?k ?_; (case X => exact (Txt.k (by assumption))); (case k => rfl)))
local macro_rules | `(tactic| walk_at "callWith ref") => `(tactic| (with_unfolding_all refine' callWith_K0 (K := KK _) ?X ?k ?_; (case X => exact (Txt.keeps (by assumption) (Loc.st (by assumption))).k); (case k => rfl)))
local macro_rules | `(tactic| walk_at "And") => `(tactic| (refine ⟨(Txt.keeps (by assumption) (Loc.st (by assumption))).k, ?_⟩))
local macro_rules | `(tactic| walk_at "assign Tuple") => `(tactic| (refine' unpackL ?F ?hh ?ht ?hc ?hd ?hn ?hs ?_; (case F => assumption); (case hh => assumption); (case ht => assumption); (case hc => rfl); (case hd => rfl); (case hn => rfl); (case hs => rfl); intro h' F' k'))
local macro_rules | `(tactic| walk_at "tree") => `(tactic| first | (with_reducible show wpAny _ _ _ _ _ _) | (with_reducible show (if _ then _ else _)) | (with_reducible show Frag.In _ _ ∧ _))
local macro_rules | `(tactic| walk_at "mw") => `(tactic| repeat' (first | (walk_at "tree"; walk1) | (dsimp only; walk_at "tree"; walk1)))
local macro_rules | `(tactic| walk_at "newTuple") => `(tactic| (refine newTupleL (by assumption) (fun h' a' F' ka na Na oa => ?_)))
local macro_rules | `(tactic| walk_at "exec Assign") => `(tactic| (with_reducible refine plainObj_wpAny_Assign_Attribute ?_ ?_; rotate_left; with_unfolding_all rfl))
/-- the number and the name that the generator goes by -/
def NumOf (nv : Value) (N : Int) : Prop := (nv = .none ∧ N = 13) ∨ ∃ n t, nv = .int n t ∧ N = if n = 0 then 13 else n
def NamOf (xv : Value) (X : Str) : Prop := (xv = .none ∧ X = Str.ofString "Ajaw") ∨ ∃ x t, xv = .str x t ∧ x.length < 1000 ∧ X = if x.length = 0 then Str.ofString "Ajaw" else x
section
variable {prog : Program} {w : World} {A : Around} {E : Value → Shared → Prop} {s : Shared} {mg mb : Str → Option Value} {fd : FuncData} {body : List Stmt} {H : Heap} {L : Addr} {nv xv : Value} {N : Int} {X : Str}
theorem gen_norm {Q : Flow → Shared → Prop} (hg : IsGenFd w fd body) (T : Txt w mg mb H) (hh : A.handled = none) (F : Loc H L s.heap (gm nv xv)) (hN : NumOf nv N) (hX : NamOf xv X)
    (h : ∀ h' tk m t u, Loc H L h' m → m (Str.ofString "number") = some (.int N t) → m (Str.ofString "name") = some (.str X u) → Q .next { s with heap := h', toks := tk }) :
    wpAny (model prog w) A (execs (body.take 2) (callEnv fd L 105)) Q E s := by
  obtain ⟨⟨o, ho, hd⟩, hb⟩ := hg
  have e := (rfl : (KK w).lookup 105 = some _)
  rw [e] at ho
  cases ho
  cases hd
  cases hb
  simp only [List.take_succ_cons, List.take_zero]
  rcases hX with ⟨rfl, rfl⟩ | ⟨x, u, rfl, hlen, rfl⟩
  · rcases hN with ⟨rfl, rfl⟩ | ⟨n, t, rfl, rfl⟩ <;> (walk_at "mw"; all_goals (try dsimp only))
    · rename_i h₁ F₁ h₂ F₂
      exact h _ _ _ _ _ F₂ (by with_unfolding_all rfl) (by with_unfolding_all rfl)
    · rename_i hn h₁ F₁ h₂ F₂
      exact h _ _ _ t _ F₂ (by rw [if_neg hn]; with_unfolding_all rfl) (by with_unfolding_all rfl)
    · rename_i hn h₁ F₁ h₂ F₂
      exact h _ _ _ _ _ F₂ (by rw [if_pos hn]; with_unfolding_all rfl) (by with_unfolding_all rfl)
  · rcases hN with ⟨rfl, rfl⟩ | ⟨n, t, rfl, rfl⟩ <;> (walk_at "mw"; all_goals (try dsimp only))
    · rename_i h₁ F₁ hx h₂ F₂
      exact h _ _ _ _ u F₂ (by with_unfolding_all rfl) (by rw [show (if x.length = 0 then Str.ofString "Ajaw" else x) = x from if_neg (by omega)]; with_unfolding_all rfl)
    · rename_i h₁ F₁ hx h₂ F₂
      exact h _ _ _ _ _ F₂ (by with_unfolding_all rfl) (by rw [show (if x.length = 0 then Str.ofString "Ajaw" else x) = Str.ofString "Ajaw" from if_pos (by omega)]; with_unfolding_all rfl)
    · rename_i hn h₁ F₁ hx h₂ F₂
      exact h _ _ _ t u F₂ (by rw [if_neg hn]; with_unfolding_all rfl) (by rw [show (if x.length = 0 then Str.ofString "Ajaw" else x) = x from if_neg (by omega)]; with_unfolding_all rfl)
    · rename_i hn h₁ F₁ hx h₂ F₂
      exact h _ _ _ t _ F₂ (by rw [if_neg hn]; with_unfolding_all rfl) (by rw [show (if x.length = 0 then Str.ofString "Ajaw" else x) = Str.ofString "Ajaw" from if_pos (by omega)]; with_unfolding_all rfl)
    · rename_i hn h₁ F₁ hx h₂ F₂
      exact h _ _ _ _ u F₂ (by rw [if_pos hn]; with_unfolding_all rfl) (by rw [show (if x.length = 0 then Str.ofString "Ajaw" else x) = x from if_neg (by omega)]; with_unfolding_all rfl)
    · rename_i hn h₁ F₁ hx h₂ F₂
      exact h _ _ _ _ _ F₂ (by rw [if_pos hn]; with_unfolding_all rfl) (by rw [show (if x.length = 0 then Str.ofString "Ajaw" else x) = Str.ofString "Ajaw" from if_pos (by omega)]; with_unfolding_all rfl)
end
end Mine
end
section
open PySem PySem.W PyProof.Rows PySem.Calls
set_option linter.unusedVariables false
namespace Mine
set_option maxRecDepth 100000
set_option maxHeartbeats 400000
local macro_rules | `(tactic| walk_at "eval Name") => `(tactic| (with_unfolding_all refine' ldL ?F ?v ?_ ?k ?l ?d; (case F => assumption); (case k => rfl); (case l => rfl); (case d => rfl); (case v => first | assumption | rfl)))
local macro_rules | `(tactic| walk_at "eval Name") => `(tactic| (with_unfolding_all refine' ldG ?T ?F ?e ?_ ?k ?g ?x ?d; (case T => assumption); (case F => assumption); (case k => rfl); (case g => rfl); (case x => rfl); (case d => rfl); (case e => rfl)))
local macro_rules | `(tactic| walk_at "eval Name") => `(tactic| (with_unfolding_all refine' ldB ?T ?F ?e ?v ?n ?_ ?k ?g ?b ?x ?d; (case T => assumption); (case F => assumption); (case k => rfl); (case g => rfl); (case b => rfl); (case x => rfl); (case d => rfl); (case e => rfl); (case v => boot_fast); (case n => decide)))
local macro_rules | `(tactic| walk_at "storeName") => `(tactic| (with_unfolding_all refine' stL ?F ?_ ?k ?l; (case F => assumption); (case k => rfl); (case l => rfl); intro h' F'))
local macro_rules | `(tactic| walk_at "callWith ref") => `(tactic| (with_unfolding_all refine' callWith_K (K := KK _) ?X ?k ?_; (case X => exact (Txt.k (by assumption))); (case k => rfl)))
local macro_rules | `(tactic| walk_at "callWith ref") => `(tactic| (with_unfolding_all refine' callWith_K0 (K := KK _) ?X ?k ?_; (case X => exact (Txt.keeps (by assumption) (Loc.st (by assumption))).k); (case k => rfl)))
local macro_rules | `(tactic| walk_at "And") => `(tactic| (refine ⟨(Txt.keeps (by assumption) (Loc.st (by assumption))).k, ?_⟩))
local macro_rules | `(tactic| walk_at "assign Tuple") => `(tactic| (refine' unpackL ?F ?hh ?ht ?hc ?hd ?hn ?hs ?_; (case F => assumption); (case hh => assumption); (case ht => assumption); (case hc => rfl); (case hd => rfl); (case hn => rfl); (case hs => rfl); intro h' F' k'))
local macro_rules | `(tactic| walk_at "tree") => `(tactic| first | (with_reducible show wpAny _ _ _ _ _ _) | (with_reducible show (if _ then _ else _)) | (with_reducible show Frag.In _ _ ∧ _))
local macro_rules | `(tactic| walk_at "mw") => `(tactic| repeat' (first | (walk_at "tree"; walk1) | (dsimp only; walk_at "tree"; walk1)))
local macro_rules | `(tactic| walk_at "newTuple") => `(tactic| (refine newTupleL (by assumption) (fun h' a' F' ka na Na oa => ?_)))
local macro_rules | `(tactic| walk_at "exec Assign") => `(tactic| (with_reducible refine plainObj_wpAny_Assign_Attribute ?_ ?_; rotate_left; with_unfolding_all rfl))
theorem notInTz {prog : Program} {w : World} {A : Around} {E : Value → Shared → Prop} {s : Shared} {x : Str} {u : Tok} {Q : Value → Shared → Prop} (X : (KK w).In s.heap) (h : Q (.bool (!tz.toArray.any (isNm x))) s) :
    wpAny (model prog w) A (compareOp .NotIn (.str x u) (.ref 83)) Q E s :=
  SeqAt.notIn_listAt (isNm x) (tz_list X) (fun y hy => by
    obtain ⟨i, hi, rfl⟩ := tz_mem hy
    exact (SeqRoads2.EqGives.str _ _ _ _).at _ _) h
theorem tz_has {p : Nat} (hp : p < 20) : tz.toArray.any (isNm (nmS p)) = true := by
  rw [Array.any_eq_true]
  exact ⟨p, by show p < 20; exact hp, by rw [tz_at (by show p < 20; exact hp)]; exact nm_eq p hp⟩
/-- the values are these ints -/
def IntsL (vs : List Value) (ks : List Int) : Prop := vs.length = ks.length ∧ ∀ (i : Nat) (v : Value), vs[i]? = some v → ∃ t, v = Value.int (ks.getD i 0) t
theorem intsOf {a : Int} {n : Nat} {acc : Array Value} (h : ItemsOf (fun (i : Nat) (v : Value) => ∃ t, v = Value.int (a + (i : Int) * 1) t) acc n) : IntsL acc.toList ((List.range n).map fun i : Nat => a + (i : Int)) := by
  obtain ⟨h1, h2⟩ := h
  refine ⟨by simp [h1], fun i v hv => ?_⟩
  have hlt : i < acc.size := by
    obtain ⟨q, _⟩ := List.getElem?_eq_some_iff.mp hv
    simpa using q
  obtain ⟨t, ht⟩ := h2 i v (by rw [← Array.getElem?_toList]; exact hv)
  refine ⟨t, ?_⟩
  rw [ht, Int.mul_one]
  congr 1
  rw [List.getD_eq_getElem?_getD, List.getElem?_map, List.getElem?_range (by omega)]
  rfl
theorem rsize {a b : Int} (h : a ≤ b) : Builtin.Range.rangeSize a b 1 = ((b - a).toNat : Int) := by
  unfold Builtin.Range.rangeSize
  rw [if_pos (by decide)]
  split
  · rw [Int.ediv_one]; omega
  · omega
theorem rsmall {a b : Int} (h1 : 0 ≤ a) (h2 : a ≤ b) (h3 : b ≤ 1000) : Builtin.Range.small a b 1 = true := by
  unfold Builtin.Range.small
  rw [rsize h2]
  simp [Builtin.Range.rangeFitsLong]
  omega
def rng (a b : Int) : List Int := (List.range (b - a).toNat).map fun i : Nat => a + (i : Int)
section
variable {prog : Program} {w : World} {A : Around} {E : Value → Shared → Prop} {s : Shared} {mg mb : Str → Option Value} {fd : FuncData} {body : List Stmt} {B : Heap} {L : Addr} {m : Str → Option Value} {N : Int} {t u : Tok} {p : Nat} {bm : Addr} {ob : Obj}
theorem gen_mid_ok {Q : Flow → Shared → Prop} (hg : IsGenFd w fd body) (T : Txt w mg mb B) (hB : B.StaysIn s.heap) (M : BMod B mainGlobals mg bm ob) (hh : A.handled = none) (hroom : A.depth + 9 < recursionLimit) (hU : A.units + 30 < cLine) (hTab : s.heap.get? 92 = some (tab #[])) (hB92 : B.get? 92 = none)
    (ns : s.heap.Ns L m) (hBL : B.get? L = none) (hN : m (Str.ofString "number") = some (.int N t)) (hX : m (Str.ofString "name") = some (.str (nmS p) u)) (h1 : 1 ≤ N) (h2 : N ≤ 13) (hp : p < 20)
    (h : ∀ h' g' d' tk m' C dx tt S l1 l2 vs1 vs2 n1 n2, (∀ b o, b ≠ 92 → b ≠ L → s.heap.get? b = some o → h'.get? b = some o) → (∃ ps, h'.get? 92 = some (tab ps)) → Gk s.gens g' → h'.Ns L m' → m' (Str.ofString "ranged") = some (.ref C) →
      (∀ b ∈ [C, dx, tt, S, l1, l2], s.heap.get? b = none) → h'.get? C = some (chainObj dx (some (.ref S)) (some .none)) → h'.get? dx = some emptyDict → h'.get? tt = some { cls := .type "tuple", data := .seq #[.ref l1, .ref l2] } → SIt h' "tuple_iterator" S tt 0 →
      h'.get? l1 = some { cls := .type "list", data := .seq (vs1 : List Value).toArray n1 } → h'.get? l2 = some { cls := .type "list", data := .seq (vs2 : List Value).toArray n2 } → IntsL vs1 (rng (cnt N p) 260) → IntsL vs2 (rng 1 (cnt N p)) →
      Q .next { s with heap := h', gens := g', drawn := d', toks := tk }) :
    wpAny (model prog w) A (execs ((body.drop 2).take 4) (callEnv fd L 105)) Q E s := by
  obtain ⟨⟨o, ho, hd⟩, hb⟩ := hg
  have e := (rfl : (KK w).lookup 105 = some _)
  rw [e] at ho
  cases ho
  cases hd
  cases hb
  simp only [List.take_succ_cons, List.take_zero, List.drop_succ_cons, List.drop_zero]
  have F : Loc (s.heap.hide L) L s.heap m := ⟨ns, fun _ _ e => Heap.of_hide e, Heap.hide_self ..⟩
  have T₀ : Txt w mg mb (s.heap.hide L) := T.keeps (StaysIn.hide hB _ hBL)
  walk_at "mw"
  all_goals first | (exfalso; omega) | skip
  refine notInTz (T.keeps hB).k ?_
  rw [tz_has hp]
  walk_at "mw"
  refine wpAny_call ?_
  refine count_spec T hB M (by exact hh) (by omega) (by omega) hTab hB92 h1 h2 hp fun h₁ g₁ d₁ tk₁ t₁ k₁ x₉₂ gk₁ => ?_
  dsimp only
  have L92 : L ≠ 92 := fun q => by
    obtain ⟨o, _, _, ho, hd, _⟩ := ns
    rw [q, hTab] at ho; cases ho; cases hd
  have B₁ : B.StaysIn h₁ := fun b o e => k₁ b o (ne_of_get e hB92) (hB _ _ e)
  have F₁ : Loc (h₁.hide L) L h₁ m := ⟨ns.at' fun o e => k₁ _ _ L92 e, fun _ _ e => Heap.of_hide e, Heap.hide_self ..⟩
  have T₁ : Txt w mg mb (h₁.hide L) := T.keeps (StaysIn.hide B₁ _ hBL)
  clear F T₀
  walk_at "mw"
  rename_i h₂ F₂
  refine rangeL2 F₂ fun h₃ r₃ t₃ u₃ v₃ tk₃ F₃ k₃ hr₃ => ?_
  walk_at "mw"
  obtain ⟨q1, q2, _, _⟩ := cnt_ok h1 h2 hp
  refine call_list_range (by exact hh) hr₃ (rsmall (by omega) q2 (by decide)) (rsize q2) (by omega) fun h₄ tk₄ vs₄ c₄ k₄ o₄ i₄ => ?_
  dsimp only at o₄ k₄ k₃
  have L92' : (92 : Addr) ≠ L := L92.symm
  obtain ⟨o92, e92⟩ := x₉₂
  have fresh : ∀ h', (h₁.hide L).StaysIn h' → (∃ o, h'.get? L = some o) → ∀ a, h'.get? a = none → s.heap.get? a = none := fun h' k hL a ha => by
    cases q : s.heap.get? a with
    | none => rfl
    | some o =>
      exfalso
      by_cases q9 : a = 92
      · have := k _ _ (F₁.inn e92 L92')
        rw [← q9, ha] at this; cases this
      · by_cases qL : a = L
        · obtain ⟨o', ho'⟩ := hL
          rw [← qL, ha] at ho'; cases ho'
        · have := k _ _ (F₁.inn (k₁ _ _ q9 q) qL)
          rw [ha] at this; cases this
  have nl1 : s.heap.get? h₃.objs.size = none := fresh h₃ F₃.st (let ⟨o, _, _, ho, _⟩ := F₃.ns; ⟨o, ho⟩) _ (Heap.get?_none_of_le (Nat.le_refl _))
  have o₄' : h₄.get? h₃.objs.size = some { cls := .type "list", data := .seq vs₄.toList.toArray c₄ } := by rw [o₄, Array.toArray_toList]
  have l1L : h₃.objs.size ≠ L := fun q => absurd F₃.lt (by rw [q]; exact Nat.lt_irrefl _)
  have F₄ := (F₃.keeps k₄).anew
  have T₄ := T₁.keeps (F₃.keeps k₄).sub
  have s₄ : (h₁.hide L).StaysIn (h₄.hide L) := (F₃.keeps k₄).sub
  have o₄L := (F₃.keeps k₄).inn o₄' l1L
  clear o₄ o₄'
  generalize h₃.objs.size = l1 at *
  clear F₂ F₃
  dsimp only
  walk_at "mw"
  refine rangeL2 F₄ fun h₅ r₅ t₅ u₅ v₅ tk₅ F₅ k₅ hr₅ => ?_
  walk_at "mw"
  refine call_list_range (by exact hh) hr₅ (rsmall (by decide) q1 (by omega)) (rsize q1) (by omega) fun h₆ tk₆ vs₆ c₆ k₆ o₆ i₆ => ?_
  dsimp only at o₆ k₆ k₅
  have nl2 : s.heap.get? h₅.objs.size = none := fresh h₅ (StaysIn.trans s₄ F₅.st) (let ⟨o, _, _, ho, _⟩ := F₅.ns; ⟨o, ho⟩) _ (Heap.get?_none_of_le (Nat.le_refl _))
  have o₆' : h₆.get? h₅.objs.size = some { cls := .type "list", data := .seq vs₆.toList.toArray c₆ } := by rw [o₆, Array.toArray_toList]
  have l2L : h₅.objs.size ≠ L := fun q => absurd F₅.lt (by rw [q]; exact Nat.lt_irrefl _)
  have F₆ := (F₅.keeps k₆).anew
  have T₆ := T₄.keeps (F₅.keeps k₆).sub
  have s₆ : (h₄.hide L).StaysIn (h₆.hide L) := (F₅.keeps k₆).sub
  have o₆L := (F₅.keeps k₆).inn o₆' l2L
  clear o₆ o₆'
  generalize h₅.objs.size = l2 at *
  clear F₄ F₅ T₄
  dsimp only
  walk_at "mw"
  refine wpAny_call ?_
  refine chain_make (T₆.keeps F₆.st) (by exact hh) (by omega) fun h₇ C dx tt S tk₇ k₇ nC nd nt nS dC tC SC dS tS oC oD ot oS => ?_
  have F₇ := F₆.keeps k₇
  have hL₆ : ∃ o, h₆.get? L = some o := let ⟨o, _, _, ho, _⟩ := F₆.ns; ⟨o, ho⟩
  have fr₆ := fresh h₆ (StaysIn.trans s₄ (StaysIn.trans s₆ F₆.st)) hL₆
  dsimp only at nC nd nt nS k₇
  have CL : C ≠ L := F₆.ne nC
  have dL : dx ≠ L := F₆.ne nd
  have tL : tt ≠ L := F₆.ne nt
  have SL : S ≠ L := F₆.ne nS
  have F₈ := F₇.anew
  clear F₆ T₁ F₁
  dsimp only
  walk_at "mw"
  rename_i h₉ F₉
  have up : ∀ b o, b ≠ L → h₆.get? b = some o → h₉.get? b = some o := fun b o q e => F₉.st _ _ (F₈.inn (k₇ _ _ e) q)
  refine h h₉ g₁ d₁ _ _ C dx tt S l1 l2 vs₄.toList vs₆.toList c₄ c₆ (fun b o q1 q2 e => up b o q2 (Heap.of_hide (s₆ _ _ (s₄ _ _ ((Heap.hide_ne _ q2).trans (k₁ _ _ q1 e)))))) ⟨o92, up _ _ L92' (Heap.of_hide (s₆ _ _ (s₄ _ _ ((Heap.hide_ne _ L92').trans e92))))⟩ gk₁ F₉.ns (by with_unfolding_all rfl) ?_
    (F₉.st _ _ (F₈.inn oC CL)) (F₉.st _ _ (F₈.inn oD dL)) (F₉.st _ _ (F₈.inn ot tL)) (oS.keeps fun o e => F₉.st _ _ (F₈.inn e SL)) (up _ _ l1L (Heap.of_hide (s₆ _ _ o₄L))) (up _ _ l2L (Heap.of_hide o₆L)) (intsOf i₄) (intsOf i₆)
  intro b hb
  simp only [List.mem_cons, List.not_mem_nil, or_false] at hb
  rcases hb with rfl | rfl | rfl | rfl | rfl | rfl
  · exact fr₆ _ nC
  · exact fr₆ _ nd
  · exact fr₆ _ nt
  · exact fr₆ _ nS
  · exact nl1
  · exact nl2
end
end Mine
end
section
open PySem PySem.W PyProof.Rows PySem.Calls
set_option linter.unusedVariables false
namespace Mine
set_option maxRecDepth 100000
set_option maxHeartbeats 400000
local macro_rules | `(tactic| walk_at "eval Name") => `(tactic| (with_unfolding_all refine' ldL ?F ?v ?_ ?k ?l ?d; (case F => assumption); (case k => rfl); (case l => rfl); (case d => rfl); (case v => first | assumption | rfl)))
local macro_rules | `(tactic| walk_at "eval Name") => `(tactic| (with_unfolding_all refine' ldG ?T ?F ?e ?_ ?k ?g ?x ?d; (case T => assumption); (case F => assumption); (case k => rfl); (case g => rfl); (case x => rfl); (case d => rfl); (case e => rfl)))
local macro_rules | `(tactic| walk_at "eval Name") => `(tactic| (with_unfolding_all refine' ldB ?T ?F ?e ?v ?n ?_ ?k ?g ?b ?x ?d; (case T => assumption); (case F => assumption); (case k => rfl); (case g => rfl); (case b => rfl); (case x => rfl); (case d => rfl); (case e => rfl); (case v => boot_fast); (case n => decide)))
local macro_rules | `(tactic| walk_at "storeName") => `(tactic| (with_unfolding_all refine' stL ?F ?_ ?k ?l; (case F => assumption); (case k => rfl); (case l => rfl); intro h' F'))
local macro_rules | `(tactic| walk_at "callWith ref") => `(tactic| (with_unfolding_all refine' callWith_K (K := KK _) ?X ?k ?_; (case X => exact (Txt.k (by assumption))); (case k => rfl)))
local macro_rules | `(tactic| walk_at "callWith ref") => `(tactic| (with_unfolding_all refine' callWith_K0 (K := KK _) ?X ?k ?_; (case X => exact (Txt.keeps (by assumption) (Loc.st (by assumption))).k); (case k => rfl)))
local macro_rules | `(tactic| walk_at "And") => `(tactic| (refine ⟨(Txt.keeps (by assumption) (Loc.st (by assumption))).k, ?_⟩))
local macro_rules | `(tactic| walk_at "assign Tuple") => `(tactic| (refine' unpackL ?F ?hh ?ht ?hc ?hd ?hn ?hs ?_; (case F => assumption); (case hh => assumption); (case ht => assumption); (case hc => rfl); (case hd => rfl); (case hn => rfl); (case hs => rfl); intro h' F' k'))
local macro_rules | `(tactic| walk_at "tree") => `(tactic| first | (with_reducible show wpAny _ _ _ _ _ _) | (with_reducible show (if _ then _ else _)) | (with_reducible show Frag.In _ _ ∧ _))
local macro_rules | `(tactic| walk_at "mw") => `(tactic| repeat' (first | (walk_at "tree"; walk1) | (dsimp only; walk_at "tree"; walk1)))
local macro_rules | `(tactic| walk_at "newTuple") => `(tactic| (refine newTupleL (by assumption) (fun h' a' F' ka na Na oa => ?_)))
local macro_rules | `(tactic| walk_at "exec Assign") => `(tactic| (with_reducible refine plainObj_wpAny_Assign_Attribute ?_ ?_; rotate_left; with_unfolding_all rfl))
section
variable {prog : Program} {w : World} {A : Around} {E : Value → Shared → Prop} {s : Shared} {mg mb : Str → Option Value} {fd : FuncData} {body : List Stmt} {B : Heap} {L : Addr} {m : Str → Option Value} {N : Int} {t u : Tok} {p : Nat} {X : Str}
theorem gen_mid_val {Q : Flow → Shared → Prop} (hg : IsGenFd w fd body) (T : Txt w mg mb B) (hB : B.StaysIn s.heap) (hh : A.handled = none)
    (ns : s.heap.Ns L m) (hBL : B.get? L = none) (hN : m (Str.ofString "number") = some (.int N t)) (hX : m (Str.ofString "name") = some (.str X u)) (hbad : 13 < N ∨ (N ≤ 13 ∧ tz.toArray.any (isNm X) = false))
    (h : ∀ h' e args tk, Heap.MadeExcOf s.heap h' e (.type "ValueError") args → E (.ref e) { s with heap := h', toks := tk }) :
    wpAny (model prog w) A (execs ((body.drop 2).take 4) (callEnv fd L 105)) Q E s := by
  obtain ⟨⟨o, ho, hd⟩, hb⟩ := hg
  have e := (rfl : (KK w).lookup 105 = some _)
  rw [e] at ho
  cases ho
  cases hd
  cases hb
  simp only [List.take_succ_cons, List.take_zero, List.drop_succ_cons, List.drop_zero]
  have F : Loc (s.heap.hide L) L s.heap m := ⟨ns, fun _ _ e => Heap.of_hide e, Heap.hide_self ..⟩
  have T₀ : Txt w mg mb (s.heap.hide L) := T.keeps (StaysIn.hide hB _ hBL)
  rcases hbad with hbad | ⟨h13, hbad⟩
  · walk_at "mw"
    all_goals first | (exfalso; omega) | skip
    refine Raise_madeB PySem.F.excCall_ValueError PySem.F.excRaise_ValueError (by exact hh) (ldB T₀ F rfl (by kernel_rfl) (by decide) ⟨rfl, ?_⟩ rfl rfl rfl rfl rfl)
    walk_at "mw"
    exact ⟨by size_fits, fun h' e hm => h h' e _ _ (Heap.MadeExc.of hm)⟩
  · walk_at "mw"
    all_goals first | (exfalso; omega) | skip
    refine notInTz (T.keeps hB).k ?_
    rw [hbad]
    walk_at "mw"
    refine Raise_madeB PySem.F.excCall_ValueError PySem.F.excRaise_ValueError (by exact hh) (ldB T₀ F rfl (by kernel_rfl) (by decide) ⟨rfl, ?_⟩ rfl rfl rfl rfl rfl)
    walk_at "mw"
    exact ⟨by size_fits, fun h' e hm => h h' e _ _ (Heap.MadeExc.of hm)⟩
theorem gen_mid_idx {Q : Flow → Shared → Prop} {fl : List Env} (hg : IsGenFd w fd body) (T : Txt w mg mb B) (K : Blw A B fl s.heap) (hh : A.handled = none) (hroom : A.depth + 6 < recursionLimit)
    (ns : s.heap.Ns L m) (hBL : B.get? L = none) (hN : m (Str.ofString "number") = some (.int N t)) (hX : m (Str.ofString "name") = some (.str (nmS p) u)) (hp : p < 20) (hbad : N < 1)
    (h : ∀ h' e tk, Fly B fl e "IndexError" h' → Slt (fsOf fl) s.heap h' → E (.ref e) { s with heap := h', toks := tk }) :
    wpAny (model prog w) A (execs ((body.drop 2).take 4) (callEnv fd L 105)) Q E s := by
  obtain ⟨⟨o, ho, hd⟩, hb⟩ := hg
  have e := (rfl : (KK w).lookup 105 = some _)
  rw [e] at ho
  cases ho
  cases hd
  cases hb
  simp only [List.take_succ_cons, List.take_zero, List.drop_succ_cons, List.drop_zero]
  have F : Loc (s.heap.hide L) L s.heap m := ⟨ns, fun _ _ e => Heap.of_hide e, Heap.hide_self ..⟩
  have T₀ : Txt w mg mb (s.heap.hide L) := T.keeps (StaysIn.hide K.stays _ hBL)
  walk_at "mw"
  all_goals first | (exfalso; omega) | skip
  refine notInTz (T.keeps K.stays).k ?_
  rw [tz_has hp]
  walk_at "mw"
  refine wpAny_call ?_
  refine count_raise T K (by exact hh) (by omega) hbad fun h' e tk hf hs => ?_
  exact h h' e tk hf hs
end
end Mine
end
section
open PySem PySem.W PyProof.Rows PySem.Calls
set_option linter.unusedVariables false
namespace Mine
set_option maxRecDepth 100000
set_option maxHeartbeats 400000
local macro_rules | `(tactic| walk_at "eval Name") => `(tactic| (with_unfolding_all refine' ldL ?F ?v ?_ ?k ?l ?d; (case F => assumption); (case k => rfl); (case l => rfl); (case d => rfl); (case v => first | assumption | rfl)))
local macro_rules | `(tactic| walk_at "eval Name") => `(tactic| (with_unfolding_all refine' ldG ?T ?F ?e ?_ ?k ?g ?x ?d; (case T => assumption); (case F => assumption); (case k => rfl); (case g => rfl); (case x => rfl); (case d => rfl); (case e => rfl)))
local macro_rules | `(tactic| walk_at "eval Name") => `(tactic| (with_unfolding_all refine' ldB ?T ?F ?e ?v ?n ?_ ?k ?g ?b ?x ?d; (case T => assumption); (case F => assumption); (case k => rfl); (case g => rfl); (case b => rfl); (case x => rfl); (case d => rfl); (case e => rfl); (case v => boot_fast); (case n => decide)))
local macro_rules | `(tactic| walk_at "storeName") => `(tactic| (with_unfolding_all refine' stL ?F ?_ ?k ?l; (case F => assumption); (case k => rfl); (case l => rfl); intro h' F'))
local macro_rules | `(tactic| walk_at "callWith ref") => `(tactic| (with_unfolding_all refine' callWith_K (K := KK _) ?X ?k ?_; (case X => exact (Txt.k (by assumption))); (case k => rfl)))
local macro_rules | `(tactic| walk_at "callWith ref") => `(tactic| (with_unfolding_all refine' callWith_K0 (K := KK _) ?X ?k ?_; (case X => exact (Txt.keeps (by assumption) (Loc.st (by assumption))).k); (case k => rfl)))
local macro_rules | `(tactic| walk_at "And") => `(tactic| (refine ⟨(Txt.keeps (by assumption) (Loc.st (by assumption))).k, ?_⟩))
local macro_rules | `(tactic| walk_at "assign Tuple") => `(tactic| (refine' unpackL ?F ?hh ?ht ?hc ?hd ?hn ?hs ?_; (case F => assumption); (case hh => assumption); (case ht => assumption); (case hc => rfl); (case hd => rfl); (case hn => rfl); (case hs => rfl); intro h' F' k'))
local macro_rules | `(tactic| walk_at "tree") => `(tactic| first | (with_reducible show wpAny _ _ _ _ _ _) | (with_reducible show (if _ then _ else _)) | (with_reducible show Frag.In _ _ ∧ _))
local macro_rules | `(tactic| walk_at "mw") => `(tactic| repeat' (first | (walk_at "tree"; walk1) | (dsimp only; walk_at "tree"; walk1)))
local macro_rules | `(tactic| walk_at "newTuple") => `(tactic| (refine newTupleL (by assumption) (fun h' a' F' ka na Na oa => ?_)))
local macro_rules | `(tactic| walk_at "exec Assign") => `(tactic| (with_reducible refine plainObj_wpAny_Assign_Attribute ?_ ?_; rotate_left; with_unfolding_all rfl))
/-- lists and tuples are kept, the frames' own objects aside -/
def Kp (l : List Env) (h h' : Heap) : Prop := ∀ b o, b ∉ fsOf l → (∃ vs n, o.data = Data.seq vs n) → h.get? b = some o → h'.get? b = some o
theorem Kp.trans {l : List Env} {a b c : Heap} (x : Kp l a b) (y : Kp l b c) : Kp l a c := fun p o q r e => y p o q r (x p o q r e)
theorem Kp.of_stays {l : List Env} {a b : Heap} (x : a.StaysIn b) : Kp l a b := fun p o _ _ e => x p o e
/-- the generator between two of its turns: i values told -/
structure GI (A : Around) (l : List Env) (L : Addr) (X : List Addr) (B : Heap) (C dx S tt : Addr) (all : List (Addr × List Value)) (nn : Nat) (vals : List Value) (i : Nat) (h : Heap) : Prop where
  K : Blw A B l h
  nl : B.get? L = none
  ns : ∃ m, h.Ns L m
  hL : L ∉ fsOf l
  hC : C ∉ fsOf l
  CL : C ≠ L
  hX : ∀ b ∈ X, b ≠ C ∧ b ≠ S ∧ b ≠ L ∧ b ∉ fsOf l ∧ B.get? b = none
  ch : ∃ left ls act, Chn B h C dx S tt all nn left ls act ∧ left ++ (ls.map (·.2)).flatten = vals.drop i ∧ ∀ b ∈ X, act ≠ .ref b
/-- lists or tuples stand there -/
def XO (X : List Addr) (h : Heap) : Prop := ∀ b ∈ X, ∃ o, h.get? b = some o ∧ ∃ vs n, o.data = Data.seq vs n
theorem GI.moves {A : Around} {l : List Env} {L : Addr} {X : List Addr} {B : Heap} {C dx S tt : Addr} {all : List (Addr × List Value)} {nn : Nat} {vals : List Value} {i : Nat} {h h' : Heap} (x : GI A l L X B C dx S tt all nn vals i h) (k : h.StaysIn h') : GI A l L X B C dx S tt all nn vals i h' :=
  ⟨x.K.keeps k, x.nl, let ⟨m, q⟩ := x.ns; ⟨m, q.keeps k⟩, x.hL, x.hC, x.CL, x.hX, let ⟨a, b, c, q, r⟩ := x.ch; ⟨a, b, c, q.keeps k, r⟩⟩
section
variable {prog : Program} {w : World} {A A' : Around} {E : Value → Shared → Prop} {s : Shared} {mg mb : Str → Option Value} {env : Env} {l : List Env} {L : Addr} {X : List Addr} {B : Heap} {C dx S tt : Addr} {all : List (Addr × List Value)} {nn i : Nat} {vals : List Value}
theorem gi_next {Q : Option Value → Shared → Prop} (T : Txt w mg mb B) (hh : A'.handled = none) (hfr : A'.frames = some (env :: l)) (hroom : A'.depth + 6 < recursionLimit) (hf : env.frame = some L) (hk : env.scope.kind = .function)
    (G : GI A l L X B C dx S tt all nn vals i s.heap) (hXO : XO X s.heap)
    (hQ : match vals.drop i with
      | v :: rest => ∀ h' tk, (rest = vals.drop (i + 1) → GI A l L X B C dx S tt all nn vals (i + 1) h') → Kp l s.heap h' → Slt (fsOf l) s.heap h' → (∀ m, s.heap.Ns L m → h'.Ns L m) → Q (some v) { s with heap := h', toks := tk }
      | [] => ∀ h' tk, B.StaysIn h' → Kp l s.heap h' → Slt (fsOf l) s.heap h' → Q none { s with heap := h', toks := tk }) :
    wpAny (model prog w) A' (pyNext (.ref C)) Q E s := by
  obtain ⟨K, nl, ⟨m, ns⟩, hL, hC, CL, hX, left, ls, act, ch, hrem, hXa⟩ := G
  obtain ⟨k, x1, x2, x3, x4, x5, x6, x7, x8, x9, x10⟩ := id ch
  have hfs : ∀ b, b ∈ fsOf (env :: l) ↔ b = L ∨ b ∈ fsOf l := fun b => by rw [fs_cons hf]; exact List.mem_cons
  obtain ⟨al, hal⟩ : ∃ al : List Addr, ∀ b, b ∈ al ↔ act = .ref b := by
    rcases x10 with ⟨rfl, _⟩ | ⟨a, _, _, _, _, rfl, _⟩
    · exact ⟨[], fun b => by simp⟩
    · exact ⟨[a], fun b => by simp [eq_comm]⟩
  have actF : ∀ b, act = .ref b → (∃ o vs, s.heap.get? b = some o ∧ o.data = Data.fields vs) ∧ B.get? b = none := fun b q => by
    rcases x10 with ⟨q', _⟩ | ⟨a, _, _, _, _, q', ⟨o, ho, _, hd⟩, hB, _⟩
    · rw [q'] at q; cases q
    · rw [q'] at q; cases q; exact ⟨⟨o, _, ho, hd⟩, hB⟩
  obtain ⟨oS, hS, _, hdS⟩ := id x6
  have hSf : S ∉ fsOf l := fun hb => by obtain ⟨o', ho', hn⟩ := K.there hb; rw [hS] at ho'; cases ho'; exact hn _ hdS
  have haf : ∀ b, act = .ref b → b ∉ fsOf l := fun b q hb => by
    obtain ⟨⟨o, vs, ho, hd⟩, _⟩ := actF b q
    obtain ⟨o', ho', hn⟩ := K.there hb
    rw [ho] at ho'; cases ho'; exact hn _ hd
  have none₂ : ∀ b, b ∈ C :: S :: L :: (al ++ fsOf l) → (hideAll s.heap (C :: S :: L :: (al ++ fsOf l))).get? b = none := fun b hb => hideAll_none _ hb
  have in₂ : ∀ b o, b ≠ C → b ≠ S → b ≠ L → act ≠ .ref b → b ∉ fsOf l → s.heap.get? b = some o → (hideAll s.heap (C :: S :: L :: (al ++ fsOf l))).get? b = some o := fun b o q1 q2 q3 q4 q5 e => hideAll_get _ e fun hb => by
    simp only [List.mem_cons, List.mem_append] at hb
    rcases hb with z | z | z | z | z
    · exact q1 z
    · exact q2 z
    · exact q3 z
    · exact q4 ((hal b).mp z)
    · exact q5 z
  have BB : B.StaysIn (hideAll s.heap (C :: S :: L :: (al ++ fsOf l))) := fun b o e => in₂ b o (ne_of_get e x1) (ne_of_get e x2) (ne_of_get e nl) (fun q => by rw [(actF b q).2] at e; cases e) (K.notin e) (K.stays _ _ e)
  have st₂ : (hideAll s.heap (C :: S :: L :: (al ++ fsOf l))).StaysIn s.heap := fun b o e => of_hideAll _ e
  generalize hB₂ : hideAll s.heap (C :: S :: L :: (al ++ fsOf l)) = B₂ at *
  have K₂ : Blw A' B₂ (env :: l) s.heap := (K.onto B₂ st₂ fun b hb => none₂ b (by simp [hb])).inn ns (none₂ L (by simp)) hf (by rw [hk]; decide) hfr
  have ch₂ : Chn B₂ s.heap C dx S tt all nn left ls act := ⟨k, none₂ C (by simp), none₂ S (by simp), x3, BB _ _ x4, BB _ _ x5, x6, fun q hq => let ⟨n, e⟩ := x7 q hq; ⟨n, BB _ _ e⟩, x8, x9, by
    rcases x10 with x10 | ⟨a, l', i', its, n', q, y1, y2, y3, y4, y5⟩
    · exact .inl x10
    · exact .inr ⟨a, l', i', its, n', q, y1, none₂ a (by simp [(hal a).mpr q]), BB _ _ y3, y4, y5⟩⟩
  have hC₂ : C ∉ fsOf (env :: l) := fun hb => ((hfs C).mp hb).elim CL hC
  have kp : ∀ h', B₂.StaysIn h' → Kp l s.heap h' := fun h' q b o hb ⟨vs, n, hd⟩ e => q _ _ (in₂ b o (fun z => by rw [z, x3] at e; cases e; cases hd) (fun z => by rw [z, hS] at e; cases e; rw [hdS] at hd; cases hd) (fun z => by
      obtain ⟨oL, _, _, hoL, hdL, _⟩ := ns; rw [z, hoL] at e; cases e; rw [hdL] at hd; cases hd) (fun z => by obtain ⟨⟨o', vs', ho', hd'⟩, _⟩ := actF b z; rw [ho'] at e; cases e; rw [hd'] at hd; cases hd) hb e)
  have sl : ∀ h', Slt (fsOf (env :: l)) s.heap h' → Slt (fsOf l) s.heap h' := fun h' q => q.mono fun b hb => (hfs b).mpr (.inr hb)
  have nsk : ∀ h', Slt (fsOf (env :: l)) s.heap h' → ∀ m, s.heap.Ns L m → h'.Ns L m := fun h' q m hm => q.ns hm ((hfs L).mpr (.inl rfl))
  refine ownNext (T.keeps K.stays).k (chainInst x3 (K.stays _ _ x4)) (rfl : findIn (KK w) (.ref 78) (Str.ofString "__next__") = some (some (.ref 74))) rfl (wpAny_call (chain_next (T.keeps BB) K₂ hh (by omega) hC₂ ch₂ ?_))
  rw [hrem]
  cases hv : vals.drop i with
  | nil =>
    rw [hv] at hQ
    intro h' e tk' hf' hs'
    refine wpAny_isInstance (s := { s with heap := h', toks := tk' }) (b := true) hf'.type (by rw [isSubtype_type]; kernel_rfl) ?_
    rw [if_pos rfl]
    exact hQ h' tk' (StaysIn.trans BB hf'.st) (kp _ hf'.st) (sl _ hs')
  | cons v rest =>
    rw [hv] at hQ
    intro h' tk' left' ls' act' hst hs' ch' hrem'
    refine hQ h' tk' (fun hr => ⟨K.move (sl _ hs') (StaysIn.trans BB hst), nl, ⟨m, nsk _ hs' m ns⟩, hL, hC, CL, hX, left', ls', act', ?_, by rw [hrem', hr], ?_⟩) (kp _ hst) (sl _ hs') (nsk _ hs')
    rotate_left
    · intro b hb q
      obtain ⟨_, _, _, _, _, _, _, _, _, _, y10⟩ := ch'
      rcases y10 with ⟨q', _⟩ | ⟨a, _, _, _, _, q', _, z2, _⟩
      · rw [q'] at q; cases q
      · rw [q'] at q; cases q
        obtain ⟨o, ho, vs, n, hd⟩ := hXO b hb
        obtain ⟨w1, w2, w3, w4, _⟩ := hX b hb
        rw [in₂ b o w1 w2 w3 (hXa b hb) w4 ho] at z2; cases z2
    obtain ⟨k', y1, y2, y3, y4, y5, y6, y7, y8, y9, y10⟩ := ch'
    refine ⟨k', x1, x2, y3, x4, x5, y6, x7, y8, y9, ?_⟩
    rcases y10 with y10 | ⟨a, l', i', its, n', q, z1, z2, z3, z4, z5⟩
    · exact .inl y10
    · obtain ⟨n₂, e₂⟩ := x7 (l', its) z5
      refine .inr ⟨a, l', i', its, n₂, q, z1, ?_, e₂, z4, z5⟩
      cases e : B.get? a with
      | none => rfl
      | some o => have := BB _ _ e; rw [z2] at this; cases this
end
end Mine
end
section
open PySem PySem.W PyProof.Rows PySem.Calls
set_option linter.unusedVariables false
namespace Mine
set_option maxRecDepth 100000
set_option maxHeartbeats 400000
local macro_rules | `(tactic| walk_at "eval Name") => `(tactic| (with_unfolding_all refine' ldL ?F ?v ?_ ?k ?l ?d; (case F => assumption); (case k => rfl); (case l => rfl); (case d => rfl); (case v => first | assumption | rfl)))
local macro_rules | `(tactic| walk_at "eval Name") => `(tactic| (with_unfolding_all refine' ldG ?T ?F ?e ?_ ?k ?g ?x ?d; (case T => assumption); (case F => assumption); (case k => rfl); (case g => rfl); (case x => rfl); (case d => rfl); (case e => rfl)))
local macro_rules | `(tactic| walk_at "eval Name") => `(tactic| (with_unfolding_all refine' ldB ?T ?F ?e ?v ?n ?_ ?k ?g ?b ?x ?d; (case T => assumption); (case F => assumption); (case k => rfl); (case g => rfl); (case b => rfl); (case x => rfl); (case d => rfl); (case e => rfl); (case v => boot_fast); (case n => decide)))
local macro_rules | `(tactic| walk_at "storeName") => `(tactic| (with_unfolding_all refine' stL ?F ?_ ?k ?l; (case F => assumption); (case k => rfl); (case l => rfl); intro h' F'))
local macro_rules | `(tactic| walk_at "callWith ref") => `(tactic| (with_unfolding_all refine' callWith_K (K := KK _) ?X ?k ?_; (case X => exact (Txt.k (by assumption))); (case k => rfl)))
local macro_rules | `(tactic| walk_at "callWith ref") => `(tactic| (with_unfolding_all refine' callWith_K0 (K := KK _) ?X ?k ?_; (case X => exact (Txt.keeps (by assumption) (Loc.st (by assumption))).k); (case k => rfl)))
local macro_rules | `(tactic| walk_at "And") => `(tactic| (refine ⟨(Txt.keeps (by assumption) (Loc.st (by assumption))).k, ?_⟩))
local macro_rules | `(tactic| walk_at "assign Tuple") => `(tactic| (refine' unpackL ?F ?hh ?ht ?hc ?hd ?hn ?hs ?_; (case F => assumption); (case hh => assumption); (case ht => assumption); (case hc => rfl); (case hd => rfl); (case hn => rfl); (case hs => rfl); intro h' F' k'))
local macro_rules | `(tactic| walk_at "tree") => `(tactic| first | (with_reducible show wpAny _ _ _ _ _ _) | (with_reducible show (if _ then _ else _)) | (with_reducible show Frag.In _ _ ∧ _))
local macro_rules | `(tactic| walk_at "mw") => `(tactic| repeat' (first | (walk_at "tree"; walk1) | (dsimp only; walk_at "tree"; walk1)))
local macro_rules | `(tactic| walk_at "newTuple") => `(tactic| (refine newTupleL (by assumption) (fun h' a' F' ka na Na oa => ?_)))
local macro_rules | `(tactic| walk_at "exec Assign") => `(tactic| (with_reducible refine plainObj_wpAny_Assign_Attribute ?_ ?_; rotate_left; with_unfolding_all rfl))
/-- how a state came from another, the generator's own objects and the frames aside -/
structure From (l : List Env) (s₀ s : Shared) : Prop where
  kp : Kp l s₀.heap s.heap
  sl : Slt (fsOf l) s₀.heap s.heap
  os : s.os = s₀.os
  gk : Gk s₀.gens s.gens
  tb : (∃ ps, s₀.heap.get? 92 = some (tab ps)) → ∃ ps, s.heap.get? 92 = some (tab ps)
theorem From.refl (l : List Env) (s : Shared) : From l s s := ⟨fun _ _ _ _ e => e, Slt.refl _ _, rfl, Gk.refl _, id⟩
theorem From.trans {l : List Env} {a b c : Shared} (x : From l a b) (y : From l b c) : From l a c := ⟨x.kp.trans y.kp, x.sl.trans y.sl, y.os.trans x.os, x.gk.trans y.gk, fun q => y.tb (x.tb q)⟩
/-- what the generator hands out at a yield, n yields ahead -/
def YP (A : Around) (l : List Env) (L : Addr) (X : List Addr) (B₀ : Heap) (ks : List Int) : Protocol := fun n s₀ v s₁ kap =>
  From l s₀ s₁ ∧ (∃ a t u, v = .ref a ∧ s₁.heap.get? a = some (dayObj (nu (ks.getD (ks.length - 1 - n) 0)) (nmS (pl (ks.getD (ks.length - 1 - n) 0))) t u) ∧ a ∉ fsOf l) ∧
  ∃ B C dx S tt all nn vals, IntsL vals ks ∧ B₀.StaysIn B ∧ GI A l L X B C dx S tt all nn vals (ks.length - n) s₁.heap ∧ ∀ s'', GI A l L X B C dx S tt all nn vals (ks.length - n) s''.heap → XO X s''.heap → kap (.send .none) s''
/-- what the generator's end is -/
def RP (l : List Env) (B₀ : Heap) (PE : Addr → Shared → Prop) : GenEnd := fun n s₀ r s₁ => (r = .ok (.ret .none) ∧ (n = 0 ∧ From l s₀ s₁ ∧ B₀.StaysIn s₁.heap)) ∨ ∃ e, r = .error (.ref e) ∧ PE e s₁
section
variable {prog : Program} {w : World} {A : Around} {mg mb : Str → Option Value} {fd : FuncData} {body fbody : List Stmt} {l : List Env} {L : Addr} {X : List Addr} {B₀ B : Heap} {C dx S tt : Addr} {all : List (Addr × List Value)} {nn : Nat} {vals : List Value} {ks : List Int} {PE : Addr → Shared → Prop} {fs : List Frame} {px fp : Pos} {x : Str}
theorem gen_loop (hg : IsGenFd w fd body) {iter : Expr} (hb : ∃ n, body.drop 6 = [.For (.Name x px) iter fbody [] n]) (T : Txt w mg mb B) (hB : B₀.StaysIn B) (hT92 : ∃ ps, B.get? 92 = some (tab ps)) (hv : IntsL vals ks)
    (hfs : splitAtGen fs = none) (hfg : fs.any Frame.guarded = false)
    (hov : ∃ A' : Around, (A.over (.forLoop (.Name x px) (.ref C) fbody [] (callEnv fd L 105)) fs) = A' ∧ A'.handled = none ∧ A'.frames = some (callEnv fd L 105 :: l) ∧ A'.depth + 12 < recursionLimit)
    (hfin : ∀ s₀ s', From l s₀ s' → B₀.StaysIn s'.heap → ∀ c', Seg (model prog w) A (RP l B₀ PE) (YP A l L X B₀ ks) 0 s₀ c' (leafOf (.ok .next)) fs s') :
    ∀ k i s₀ s, vals.length - i = k → i ≤ vals.length → GI A l L X B C dx S tt all nn vals i s.heap → XO X s.heap → From l s₀ s →
      Seg (model prog w) A (RP l B₀ PE) (YP A l L X B₀ ks) k s₀ (.forLoop (.Name x px) (.ref C) fbody [] (callEnv fd L 105)) ((model prog w).den (.forLoop (.Name x px) (.ref C) fbody [] (callEnv fd L 105))) fs s := by
  obtain ⟨⟨o, ho, hd⟩, hbd⟩ := hg
  have e := (rfl : (KK w).lookup 105 = some _)
  rw [e] at ho
  cases ho
  cases hd
  cases hbd
  obtain ⟨fpos, hb⟩ := hb
  simp only [List.drop_succ_cons, List.drop_zero] at hb
  cases hb
  obtain ⟨A', hA', hh, hfr, hroom⟩ := hov
  intro k
  induction k with
  | zero =>
    intro i s₀ s hk hi G hXO F
    refine seg_forLoop ?_ (by intro _; rfl)
    rw [hA']
    refine gi_next T hh hfr (by omega) rfl rfl G hXO ?_
    rw [show vals.drop i = [] from List.drop_eq_nil_of_le (by omega)]
    intro h' tk hst hkp hsl c'
    exact hfin s₀ { s with heap := h', toks := tk } (F.trans ⟨hkp, hsl, rfl, Gk.refl _, fun _ => let ⟨ps, e⟩ := hT92; ⟨ps, hst _ _ e⟩⟩) (StaysIn.trans hB hst) c'
  | succ k ih =>
    intro i s₀ s hk hi G hXO F
    have hlt : i < vals.length := by omega
    refine seg_forLoop ?_ (by intro _; rfl)
    rw [hA']
    refine gi_next T hh hfr (by omega) rfl rfl G hXO ?_
    rw [List.drop_eq_getElem_cons hlt]
    intro h₁ tk₁ hG₁ hkp₁ hsl₁ hns₁
    have G₁ := hG₁ rfl
    obtain ⟨m, ns⟩ := G₁.ns
    obtain ⟨tv, hvi⟩ := hv.2 i vals[i] (List.getElem?_eq_getElem hlt)
    rw [hvi]
    have F₁ : Loc (h₁.hide L) L h₁ m := ⟨ns, fun _ _ e => Heap.of_hide e, Heap.hide_self ..⟩
    have T₁ : Txt w mg mb (h₁.hide L) := T.keeps (StaysIn.hide G₁.K.stays _ G₁.nl)
    refine wpAny_assign_Name ?_
    walk_at "mw"
    rename_i h₂ F₂
    refine seg_execs_cons (seg_Expr_Yield hfs rfl hfg ?_)
    rw [hA']
    walk_at "mw"
    refine wpAny_call ?_
    refine from_count_spec (T₁.keeps F₂.st) hh (by omega) fun h₃ a t' u' tk₃ k₃ na oa => ?_
    have F₃ := F₂.keeps k₃
    dsimp only
    intro kap hkap
    have e1 : ks.length - k = i + 1 := by have := hv.1; omega
    have e2 : ks.length - 1 - k = i := by have := hv.1; omega
    have up : ∀ b o, b ≠ L → h₁.get? b = some o → h₃.get? b = some o := fun b o q e => F₃.st _ _ (F₁.inn e q)
    have hLf : ∀ b, b ∈ fsOf l → b ≠ L := fun b hb q => G₁.hL (q ▸ hb)
    have G₃ : GI A l L X B C dx S tt all nn vals (i + 1) h₃ := by
      obtain ⟨left, ls, act, ch, hrem, hXa⟩ := G₁.ch
      obtain ⟨kk, x1, x2, x3, x4, x5, x6, x7, x8, x9, x10⟩ := ch
      have notL : ∀ b o, h₁.get? b = some o → (∀ es n, o.data ≠ Data.dict es n) → b ≠ L := fun b o e hd q => by
        obtain ⟨oL, es, ep, hoL, hdL, _⟩ := ns
        rw [q, hoL] at e; cases e; exact hd _ _ hdL
      refine ⟨G₁.K.move (Slt.of_keeps fun b o hb e => up b o (hLf b hb) e) (fun b o e => up b o (ne_of_get e G₁.nl) (G₁.K.stays _ _ e)), G₁.nl, ⟨_, F₃.ns⟩, G₁.hL, G₁.hC, G₁.CL, G₁.hX, left, ls, act, ⟨kk, x1, x2, up _ _ G₁.CL x3, x4, x5, ?_, x7, x8, x9, ?_⟩, hrem, hXa⟩
      · obtain ⟨o, ho, hc, hd⟩ := x6
        exact ⟨o, up _ _ (notL _ _ ho (fun es n q => by rw [hd] at q; cases q)) ho, hc, hd⟩
      · rcases x10 with x10 | ⟨a', l', i', its, n', q, ⟨o, ho, hc, hd⟩, z2, z3, z4, z5⟩
        · exact .inl x10
        · exact .inr ⟨a', l', i', its, n', q, ⟨o, up _ _ (notL _ _ ho (fun es n q => by rw [hd] at q; cases q)) ho, hc, hd⟩, z2, z3, z4, z5⟩
    unfold YP
    rw [e1, e2]
    refine ⟨F.trans ⟨hkp₁.trans fun b o hb ⟨vs, n, hd⟩ e => ?_, hsl₁.trans (Slt.of_keeps fun b o hb e => up b o (hLf b hb) e), rfl, Gk.refl _, fun _ => let ⟨ps, e⟩ := hT92; ⟨ps, G₃.K.stays _ _ e⟩⟩, ⟨a, t', u', rfl, oa, ?_⟩, B, C, dx, S, tt, all, nn, vals, hv, hB, G₃, fun s'' hG hXO' => hkap .none s'' ?_⟩
    · refine up b o (fun q => ?_) e
      obtain ⟨oL, es, ep, hoL, hdL, _⟩ := ns
      rw [q, hoL] at e; cases e; rw [hdL] at hd; cases hd
    · intro ha
      obtain ⟨o', ho', _⟩ := G₁.K.there ha
      have := F₂.st _ _ (F₁.inn ho' (hLf a ha))
      rw [na] at this; cases this
    · exact seg_again rfl (ih (i + 1) s'' s'' (by omega) hlt hG hXO' (From.refl _ _))
end
end Mine
end
section
open PySem PySem.W PyProof.Rows PySem.Calls
set_option linter.unusedVariables false
namespace Mine
set_option maxRecDepth 100000
set_option maxHeartbeats 400000
local macro_rules | `(tactic| walk_at "eval Name") => `(tactic| (with_unfolding_all refine' ldL ?F ?v ?_ ?k ?l ?d; (case F => assumption); (case k => rfl); (case l => rfl); (case d => rfl); (case v => first | assumption | rfl)))
local macro_rules | `(tactic| walk_at "eval Name") => `(tactic| (with_unfolding_all refine' ldG ?T ?F ?e ?_ ?k ?g ?x ?d; (case T => assumption); (case F => assumption); (case k => rfl); (case g => rfl); (case x => rfl); (case d => rfl); (case e => rfl)))
local macro_rules | `(tactic| walk_at "eval Name") => `(tactic| (with_unfolding_all refine' ldB ?T ?F ?e ?v ?n ?_ ?k ?g ?b ?x ?d; (case T => assumption); (case F => assumption); (case k => rfl); (case g => rfl); (case b => rfl); (case x => rfl); (case d => rfl); (case e => rfl); (case v => boot_fast); (case n => decide)))
local macro_rules | `(tactic| walk_at "storeName") => `(tactic| (with_unfolding_all refine' stL ?F ?_ ?k ?l; (case F => assumption); (case k => rfl); (case l => rfl); intro h' F'))
local macro_rules | `(tactic| walk_at "callWith ref") => `(tactic| (with_unfolding_all refine' callWith_K (K := KK _) ?X ?k ?_; (case X => exact (Txt.k (by assumption))); (case k => rfl)))
local macro_rules | `(tactic| walk_at "callWith ref") => `(tactic| (with_unfolding_all refine' callWith_K0 (K := KK _) ?X ?k ?_; (case X => exact (Txt.keeps (by assumption) (Loc.st (by assumption))).k); (case k => rfl)))
local macro_rules | `(tactic| walk_at "And") => `(tactic| (refine ⟨(Txt.keeps (by assumption) (Loc.st (by assumption))).k, ?_⟩))
local macro_rules | `(tactic| walk_at "assign Tuple") => `(tactic| (refine' unpackL ?F ?hh ?ht ?hc ?hd ?hn ?hs ?_; (case F => assumption); (case hh => assumption); (case ht => assumption); (case hc => rfl); (case hd => rfl); (case hn => rfl); (case hs => rfl); intro h' F' k'))
local macro_rules | `(tactic| walk_at "tree") => `(tactic| first | (with_reducible show wpAny _ _ _ _ _ _) | (with_reducible show (if _ then _ else _)) | (with_reducible show Frag.In _ _ ∧ _))
local macro_rules | `(tactic| walk_at "mw") => `(tactic| repeat' (first | (walk_at "tree"; walk1) | (dsimp only; walk_at "tree"; walk1)))
local macro_rules | `(tactic| walk_at "newTuple") => `(tactic| (refine newTupleL (by assumption) (fun h' a' F' ka na Na oa => ?_)))
local macro_rules | `(tactic| walk_at "exec Assign") => `(tactic| (with_reducible refine plainObj_wpAny_Assign_Attribute ?_ ?_; rotate_left; with_unfolding_all rfl))
section
variable {prog : Program} {w : World} {A : Around} {mg mb : Str → Option Value} {fd : FuncData} {body : List Stmt} {l : List Env} {L : Addr} {X : List Addr} {B₀ : Heap} {PE : Addr → Shared → Prop} {s : Shared} {nv xv : Value} {N : Int} {p : Nat} {bm : Addr} {ob : Obj}
theorem IntsL.app {vs vs' : List Value} {ks ks' : List Int} (x : IntsL vs ks) (y : IntsL vs' ks') : IntsL (vs ++ vs') (ks ++ ks') := by
  refine ⟨by simp [x.1, y.1], fun i v e => ?_⟩
  rcases Nat.lt_or_ge i vs.length with h | h
  · rw [List.getElem?_append_left h] at e
    obtain ⟨t, r⟩ := x.2 i v e
    refine ⟨t, ?_⟩
    rw [r, List.getD_eq_getElem?_getD, List.getD_eq_getElem?_getD, List.getElem?_append_left (x.1 ▸ h)]
  · rw [List.getElem?_append_right h] at e
    obtain ⟨t, r⟩ := y.2 _ v e
    refine ⟨t, ?_⟩
    rw [r, List.getD_eq_getElem?_getD, List.getD_eq_getElem?_getD, List.getElem?_append_right (x.1 ▸ h), x.1]
theorem body_split (body : List Stmt) : body = body.take 2 ++ ((body.drop 2).take 4 ++ body.drop 6) := by
  conv => lhs; rw [← List.take_append_drop 2 body, ← List.take_append_drop 4 (body.drop 2), List.drop_drop]
theorem gen_seg_ok (hg : IsGenFd w fd body) (T : Txt w mg mb B₀) (K : Blw A B₀ l s.heap) (M : BMod B₀ mainGlobals mg bm ob) (hh : A.handled = none) (hroom : A.depth + 20 < recursionLimit) (hU : A.units + 60 < cLine) (hTab : s.heap.get? 92 = some (tab #[])) (hB92 : B₀.get? 92 = none)
    (ns : s.heap.Ns L (gm nv xv)) (hBL : B₀.get? L = none) (hL : L ∉ fsOf l) (hf92 : 92 ∉ fsOf l) (hN : NumOf nv N) (hX : NamOf xv (nmS p)) (h1 : 1 ≤ N) (h2 : N ≤ 13) (hp : p < 20)
    (hXO : XO X s.heap) (hXf : ∀ b ∈ X, b ∉ fsOf l ∧ b ≠ L ∧ b ≠ 92 ∧ B₀.get? b = none) :
    Seg (model prog w) A (RP l B₀ PE) (YP A l L X B₀ (rng (cnt N p) 260 ++ rng 1 (cnt N p))) 259 s (.func body (callEnv fd L 105)) ((model prog w).den (.func body (callEnv fd L 105))) [] s := by
  refine seg_func ?_
  have key : execs body (callEnv fd L 105) = execs (body.take 2 ++ ((body.drop 2).take 4 ++ body.drop 6)) (callEnv fd L 105) := by rw [← body_split]
  rw [key]
  have hA : ∃ A', A.over (.func body (callEnv fd L 105)) [] = A' ∧ A'.handled = none ∧ A'.frames = some (callEnv fd L 105 :: l) ∧ A'.depth = A.depth + 1 ∧ A'.units = A.units + 3 := by
    refine ⟨_, rfl, hh, ?_, ?_, ?_⟩
    · show A.frames.map _ = _
      rw [K.stack]; rfl
    · rfl
    · rfl
  obtain ⟨A', hA', hh', hfr', hd', hu'⟩ := hA
  refine seg_pre _ _ ?_
  rw [hA']
  have F₀ : Loc (s.heap.hide L) L s.heap (gm nv xv) := ⟨ns, fun _ _ e => Heap.of_hide e, Heap.hide_self ..⟩
  have L92 : L ≠ 92 := fun q => by
    obtain ⟨o, _, _, ho, hd, _⟩ := ns
    rw [q, hTab] at ho; cases ho; cases hd
  refine gen_norm hg (T.keeps (StaysIn.hide K.stays _ hBL)) hh' F₀ hN hX fun h₁ tk₁ m₁ t₁ u₁ F₁ mN mX => ?_
  dsimp only
  refine seg_pre _ _ ?_
  rw [hA']
  have B₁ : B₀.StaysIn h₁ := fun b o e => F₁.st _ _ (StaysIn.hide K.stays _ hBL _ _ e)
  refine gen_mid_ok hg T B₁ (M := M) hh' (by omega) (by omega) (F₁.st _ _ (F₀.inn hTab L92.symm)) hB92 F₁.ns hBL mN mX h1 h2 hp fun h₂ g₂ d₂ tk₂ m₂ C dx tt S l1 l2 vs1 vs2 n1 n2 k₂ x92 gk₂ ns₂ mR hnew oC oD ot oS o1 o2 i1 i2 => ?_
  dsimp only
  -- the loop
  have hg' := hg
  obtain ⟨⟨o, ho, hd⟩, hbd⟩ := hg
  have e := (rfl : (KK w).lookup 105 = some _)
  rw [e] at ho
  cases ho
  cases hd
  cases hbd
  simp only [List.drop_succ_cons, List.drop_zero]
  refine seg_execs_cons (seg_For ?_)
  rw [hA']
  have F₂ : Loc (h₂.hide L) L h₂ m₂ := ⟨ns₂, fun _ _ e => Heap.of_hide e, Heap.hide_self ..⟩
  have kk : ∀ b o, b ≠ 92 → b ≠ L → s.heap.get? b = some o → h₂.get? b = some o := fun b o q1 q2 e => k₂ b o q1 q2 (F₁.st _ _ (F₀.inn e q2))
  have B₂ : B₀.StaysIn h₂ := fun b o e => kk b o (ne_of_get e hB92) (ne_of_get e hBL) (K.stays _ _ e)
  have T₂ : Txt w mg mb (h₂.hide L) := T.keeps (StaysIn.hide B₂ _ hBL)
  have mR' : m₂ (Str.ofString "ranged") = some (.ref C) := mR
  walk_at "mw"
  refine ownIter (x := C) (C := 78) (f := 67) (g := 74) (T.keeps B₂).k (chainInst oC oD) rfl rfl rfl (wpAny_call (iter_spec (T.keeps B₂) (by omega) fun h₃ tk₃ k₃ => ?_))
  have F₃ := F₂.keeps k₃
  refine ⟨rfl, (T.keeps (StaysIn.trans B₂ k₃)).k, chainInst (k₃ _ _ oC) (k₃ _ _ oD), ?_⟩
  intro pp
  clear key
  have up : ∀ b o, b ≠ 92 → b ≠ L → s.heap.get? b = some o → h₃.get? b = some o := fun b o q1 q2 e => k₃ _ _ (kk b o q1 q2 e)
  have nwL : ∀ b ∈ [C, dx, tt, S, l1, l2], b ≠ L := fun b hb q => by
    obtain ⟨oL, _, _, hoL, _⟩ := F₁.ns
    have := hnew b hb
    rw [q] at this
    exact absurd (this.symm.trans hoL) (by simp)
  have nws : ∀ b ∈ [C, dx, tt, S, l1, l2], s.heap.get? b = none := fun b hb => by
    cases e : s.heap.get? b with
    | none => rfl
    | some o =>
      have h1 := F₁.st _ _ (F₀.inn e (nwL b hb))
      have := hnew b hb
      exact absurd (this.symm.trans h1) (by simp)
  have nwB' : ∀ a : Addr, (∃ ps, h₂.get? 92 = some (tab ps)) → ∀ b ∈ [C, dx, tt, S, l1, l2], (92 : Addr) ≠ b := fun _ _ b hb q => by
    have := nws b hb
    rw [← q, hTab] at this; cases this
  have nwf : ∀ b ∈ [C, dx, tt, S, l1, l2], b ∉ fsOf l := fun b hb q => by
    obtain ⟨o, ho, _⟩ := K.there q
    rw [nws b hb] at ho; cases ho
  have nwX : ∀ b ∈ [C, dx, tt, S, l1, l2], b ∉ X := fun b hb q => by
    obtain ⟨o, ho, _⟩ := hXO b q
    rw [nws b hb] at ho; cases ho
  have nwB : ∀ b ∈ [C, dx, tt, S, l1, l2], B₀.get? b = none := fun b hb => by
    cases e : B₀.get? b with
    | none => rfl
    | some o => have := K.stays _ _ e; rw [nws b hb] at this; cases this
  obtain ⟨oSo, hSo, hSc, hSd⟩ := id oS
  have hC₃ := k₃ _ _ oC
  have hS₃ := k₃ _ _ hSo
  have st3 : (hideAll h₃ (C :: S :: L :: (X ++ fsOf l))).StaysIn h₃ := fun b o e => of_hideAll _ e
  have no3 : ∀ b ∈ C :: S :: L :: (X ++ fsOf l), (hideAll h₃ (C :: S :: L :: (X ++ fsOf l))).get? b = none := fun b hb => hideAll_none _ hb
  have in3 : ∀ b o, b ≠ C → b ≠ S → b ≠ L → b ∉ X → b ∉ fsOf l → h₃.get? b = some o → (hideAll h₃ (C :: S :: L :: (X ++ fsOf l))).get? b = some o := fun b o q1 q2 q3 q4 q5 e => hideAll_get _ e fun hb => by
    simp only [List.mem_cons, List.mem_append] at hb
    rcases hb with z | z | z | z | z
    · exact q1 z
    · exact q2 z
    · exact q3 z
    · exact q4 z
    · exact q5 z
  have B₃ : B₀.StaysIn h₃ := StaysIn.trans B₂ k₃
  have BB : B₀.StaysIn (hideAll h₃ (C :: S :: L :: (X ++ fsOf l))) := fun b o e => in3 b o (ne_of_get e (nwB C (by simp))) (ne_of_get e (nwB S (by simp))) (ne_of_get e hBL) (fun q => by rw [(hXf b q).2.2.2] at e; cases e) (K.notin e) (B₃ _ _ e)
  generalize hB3 : hideAll h₃ (C :: S :: L :: (X ++ fsOf l)) = B at st3 no3 in3 BB
  have sl3 : Slt (fsOf l) s.heap h₃ := Slt.of_keeps fun b o hb e => up b o (fun q => hf92 (q ▸ hb)) (fun q => hL (q ▸ hb)) e
  have K3 : Blw A B l h₃ := (K.move sl3 B₃).onto B st3 fun b hb => no3 b (by simp [hb])
  have notC : ∀ b ∈ [dx, tt, l1, l2], ∀ o, h₂.get? b = some o → o ≠ chainObj dx (some (.ref S)) (some .none) → b ≠ C := fun b _ o e hn q => by
    rw [q, oC] at e; cases e; exact hn rfl
  have notS : ∀ b o, h₂.get? b = some o → (∀ vs, o.data ≠ .fields vs) → b ≠ S := fun b o e hn q => by
    rw [q, hSo] at e; cases e; exact hn _ hSd
  have kpF : From l s { heap := h₃, gens := g₂, drawn := d₂, toks := tk₃, os := s.os } := by
    refine ⟨fun b o hb ⟨vs, n, hd⟩ e => up b o (fun q => ?_) (fun q => ?_) e, sl3, rfl, gk₂, fun _ => let ⟨ps, e⟩ := x92; ⟨ps, k₃ _ _ e⟩⟩
    · rw [q, hTab] at e; cases e; cases hd
    · obtain ⟨oL, _, _, hoL, hdL, _⟩ := ns
      rw [q, hoL] at e; cases e; rw [hdL] at hd; cases hd
  have lenR : ∀ a b : Int, (rng a b).length = (b - a).toNat := fun a b => by simp [rng]
  have hvs := i1.app i2
  have G3 : GI A l L X B C dx S tt [(l1, vs1), (l2, vs2)] 0 (vs1 ++ vs2) 0 h₃ := by
    refine ⟨K3, no3 L (by simp), ⟨_, F₃.ns⟩, hL, nwf C (by simp), nwL C (by simp), fun b hb => ⟨fun q => nwX C (by simp) (q ▸ hb), fun q => nwX S (by simp) (q ▸ hb), (hXf b hb).2.1, (hXf b hb).1, no3 b (by simp [hb])⟩, [], [(l1, vs1), (l2, vs2)], .none, ⟨0, no3 C (by simp), no3 S (by simp), hC₃, ?_, ?_, oS.keeps (fun o e => k₃ _ _ e), ?_, rfl, Nat.zero_le _, .inl ⟨rfl, rfl⟩⟩, by simp, fun b hb q => by cases q⟩
    · exact in3 _ _ (notC dx (by simp) _ oD (by intro q; cases q)) (notS _ _ oD (by intro vs q; cases q)) (nwL dx (by simp)) (nwX dx (by simp)) (nwf dx (by simp)) (k₃ _ _ oD)
    · exact in3 _ _ (notC tt (by simp) _ ot (by intro q; cases q)) (notS _ _ ot (by intro vs q; cases q)) (nwL tt (by simp)) (nwX tt (by simp)) (nwf tt (by simp)) (k₃ _ _ ot)
    · intro q hq
      simp only [List.mem_cons, List.not_mem_nil, or_false] at hq
      rcases hq with rfl | rfl
      · exact ⟨_, in3 _ _ (notC l1 (by simp) _ o1 (by intro q; cases q)) (notS _ _ o1 (by intro vs q; cases q)) (nwL l1 (by simp)) (nwX l1 (by simp)) (nwf l1 (by simp)) (k₃ _ _ o1)⟩
      · exact ⟨_, in3 _ _ (notC l2 (by simp) _ o2 (by intro q; cases q)) (notS _ _ o2 (by intro vs q; cases q)) (nwL l2 (by simp)) (nwX l2 (by simp)) (nwf l2 (by simp)) (k₃ _ _ o2)⟩
  have hB92in : ∃ ps, B.get? 92 = some (tab ps) := by
    obtain ⟨ps, e⟩ := x92
    refine ⟨ps, in3 _ _ (fun q => nwB' 92 ⟨ps, e⟩ C (by simp) q) ?_ L92.symm (fun q => (hXf _ q).2.2.1 rfl) hf92 (k₃ _ _ e)⟩
    exact fun q => nwB' 92 ⟨ps, e⟩ S (by simp) q
  have hXO3 : XO X h₃ := fun b hb => by
    obtain ⟨o, ho, r⟩ := hXO b hb
    exact ⟨o, up b o (hXf b hb).2.2.1 (hXf b hb).2.1 ho, r⟩
  refine gen_loop (A := A) (x := "i") (L := L) (X := X) (l := l) (B := B) (ks := rng (cnt N p) 260 ++ rng 1 (cnt N p)) hg' ⟨_, rfl⟩ (T.keeps BB) BB hB92in hvs ?_ ?_ ⟨_, rfl, ?_, ?_, ?_⟩ ?_ 259 0 s { heap := h₃, gens := g₂, drawn := d₂, toks := tk₃, os := s.os } ?_ (Nat.zero_le _) G3 hXO3 kpF
  · rfl
  · rfl
  · exact hh
  · show A.frames.map _ = _
    rw [K.stack]; rfl
  · show A.depth + 1 + 12 < recursionLimit
    omega
  · intro s₀ s' F' hB' c'
    refine seg_leaf (.ok .next) ?_
    refine seg_end (.ok (.ret .none)) (Or.inl ⟨rfl, rfl, F', hB'⟩)
  · have hc1 := cnt_ok h1 h2 hp
    rw [Nat.sub_zero, hvs.1, List.length_append, lenR, lenR]
    omega
end
end Mine
end
section
open PySem PySem.W PyProof.Rows PySem.Calls
set_option linter.unusedVariables false
namespace Mine
set_option maxRecDepth 100000
set_option maxHeartbeats 400000
local macro_rules | `(tactic| walk_at "eval Name") => `(tactic| (with_unfolding_all refine' ldL ?F ?v ?_ ?k ?l ?d; (case F => assumption); (case k => rfl); (case l => rfl); (case d => rfl); (case v => first | assumption | rfl)))
local macro_rules | `(tactic| walk_at "eval Name") => `(tactic| (with_unfolding_all refine' ldG ?T ?F ?e ?_ ?k ?g ?x ?d; (case T => assumption); (case F => assumption); (case k => rfl); (case g => rfl); (case x => rfl); (case d => rfl); (case e => rfl)))
local macro_rules | `(tactic| walk_at "eval Name") => `(tactic| (with_unfolding_all refine' ldB ?T ?F ?e ?v ?n ?_ ?k ?g ?b ?x ?d; (case T => assumption); (case F => assumption); (case k => rfl); (case g => rfl); (case b => rfl); (case x => rfl); (case d => rfl); (case e => rfl); (case v => boot_fast); (case n => decide)))
local macro_rules | `(tactic| walk_at "storeName") => `(tactic| (with_unfolding_all refine' stL ?F ?_ ?k ?l; (case F => assumption); (case k => rfl); (case l => rfl); intro h' F'))
local macro_rules | `(tactic| walk_at "callWith ref") => `(tactic| (with_unfolding_all refine' callWith_K (K := KK _) ?X ?k ?_; (case X => exact (Txt.k (by assumption))); (case k => rfl)))
local macro_rules | `(tactic| walk_at "callWith ref") => `(tactic| (with_unfolding_all refine' callWith_K0 (K := KK _) ?X ?k ?_; (case X => exact (Txt.keeps (by assumption) (Loc.st (by assumption))).k); (case k => rfl)))
local macro_rules | `(tactic| walk_at "And") => `(tactic| (refine ⟨(Txt.keeps (by assumption) (Loc.st (by assumption))).k, ?_⟩))
local macro_rules | `(tactic| walk_at "assign Tuple") => `(tactic| (refine' unpackL ?F ?hh ?ht ?hc ?hd ?hn ?hs ?_; (case F => assumption); (case hh => assumption); (case ht => assumption); (case hc => rfl); (case hd => rfl); (case hn => rfl); (case hs => rfl); intro h' F' k'))
local macro_rules | `(tactic| walk_at "tree") => `(tactic| first | (with_reducible show wpAny _ _ _ _ _ _) | (with_reducible show (if _ then _ else _)) | (with_reducible show Frag.In _ _ ∧ _))
local macro_rules | `(tactic| walk_at "mw") => `(tactic| repeat' (first | (walk_at "tree"; walk1) | (dsimp only; walk_at "tree"; walk1)))
local macro_rules | `(tactic| walk_at "newTuple") => `(tactic| (refine newTupleL (by assumption) (fun h' a' F' ka na Na oa => ?_)))
local macro_rules | `(tactic| walk_at "exec Assign") => `(tactic| (with_reducible refine plainObj_wpAny_Assign_Attribute ?_ ?_; rotate_left; with_unfolding_all rfl))
/-- the generator's refusal: the exception flies, the frames beneath keep their places -/
structure Refd (B₀ : Heap) (l : List Env) (X : String) (s : Shared) (e : Addr) (s₁ : Shared) : Prop where
  fly : Fly B₀ l e X s₁.heap
  slt : Slt (fsOf l) s.heap s₁.heap
  os : s₁.os = s.os
  gens : s₁.gens = s.gens
theorem Blw.upTo {A : Around} {B h h' : Heap} {l : List Env} (K : Blw A B l h) (u : h.UpToSlots h') : Slt (fsOf l) h h' := K.slt u
theorem fd_kind {w : World} {fd : FuncData} {body : List Stmt} (hg : IsGenFd w fd body) (L : Addr) : (callEnv fd L 105).scope.kind = .function := by
  obtain ⟨⟨o, ho, hd⟩, hb⟩ := hg
  have e := (rfl : (KK w).lookup 105 = some _)
  rw [e] at ho
  cases ho
  cases hd
  rfl
section
variable {prog : Program} {w : World} {A : Around} {mg mb : Str → Option Value} {fd : FuncData} {body : List Stmt} {l : List Env} {L : Addr} {B₀ : Heap} {PE : Addr → Shared → Prop} {s : Shared} {nv xv : Value} {N : Int} {p n : Nat} {X : Str} {Y : Protocol}
theorem gen_seg_val (hg : IsGenFd w fd body) (T : Txt w mg mb B₀) (K : Blw A B₀ l s.heap) (hh : A.handled = none) (ns : s.heap.Ns L (gm nv xv)) (hBL : B₀.get? L = none) (hL : L ∉ fsOf l) (hN : NumOf nv N) (hX : NamOf xv X)
    (hbad : 13 < N ∨ (N ≤ 13 ∧ tz.toArray.any (isNm X) = false)) (hPE : ∀ e s₁, Refd B₀ l "ValueError" s e s₁ → PE e s₁) :
    Seg (model prog w) A (RP l B₀ PE) Y n s (.func body (callEnv fd L 105)) ((model prog w).den (.func body (callEnv fd L 105))) [] s := by
  refine seg_func ?_
  have key : execs body (callEnv fd L 105) = execs (body.take 2 ++ ((body.drop 2).take 4 ++ body.drop 6)) (callEnv fd L 105) := by rw [← body_split]
  rw [key]
  have hA : ∃ A', A.over (.func body (callEnv fd L 105)) [] = A' ∧ A'.handled = none ∧ A'.frames = some (callEnv fd L 105 :: l) ∧ A'.depth = A.depth + 1 := by
    refine ⟨_, rfl, hh, ?_, rfl⟩
    show A.frames.map _ = _
    rw [K.stack]; rfl
  obtain ⟨A', hA', hh', hfr', hd'⟩ := hA
  refine seg_pre _ _ ?_
  rw [hA']
  have F₀ : Loc (s.heap.hide L) L s.heap (gm nv xv) := ⟨ns, fun _ _ e => Heap.of_hide e, Heap.hide_self ..⟩
  refine gen_norm hg (T.keeps (StaysIn.hide K.stays _ hBL)) hh' F₀ hN hX fun h₁ tk₁ m₁ t₁ u₁ F₁ mN mX => ?_
  dsimp only
  refine seg_pre _ _ ?_
  rw [hA']
  have B₁ : B₀.StaysIn h₁ := fun b o e => F₁.st _ _ (StaysIn.hide K.stays _ hBL _ _ e)
  have sl₁ : Slt (fsOf l) s.heap h₁ := Slt.of_keeps fun b o hb e => F₁.st _ _ (F₀.inn e fun q => hL (q ▸ hb))
  have K₁ : Blw A' B₀ (callEnv fd L 105 :: l) h₁ := (K.move sl₁ B₁).inn F₁.ns hBL rfl (by rw [fd_kind hg L]; decide) hfr'
  refine gen_mid_val hg T B₁ hh' F₁.ns hBL mN mX hbad fun h₂ e args tk₂ hm => ?_
  refine seg_wrap ?_
  rw [hA']
  refine leaveNew K₁ rfl hm fun h₃ fl u => ?_
  have s₃ : Slt (fsOf l) h₁ h₃ := (Slt.of_keeps fun b o hb e => hm.keeps b o e).trans (((K₁.keeps hm.keeps).slt u).mono fun b hb => by rw [fs_cons (L := L) rfl]; exact .tail _ hb)
  exact seg_end (.error (.ref e)) (.inr ⟨e, rfl, hPE _ _ ⟨fl, sl₁.trans s₃, rfl, rfl⟩⟩)
theorem gen_seg_idx (hg : IsGenFd w fd body) (T : Txt w mg mb B₀) (K : Blw A B₀ l s.heap) (hh : A.handled = none) (hroom : A.depth + 10 < recursionLimit) (ns : s.heap.Ns L (gm nv xv)) (hBL : B₀.get? L = none) (hL : L ∉ fsOf l) (hN : NumOf nv N) (hX : NamOf xv (nmS p)) (hp : p < 20)
    (hbad : N < 1) (hPE : ∀ e s₁, Refd B₀ l "IndexError" s e s₁ → PE e s₁) :
    Seg (model prog w) A (RP l B₀ PE) Y n s (.func body (callEnv fd L 105)) ((model prog w).den (.func body (callEnv fd L 105))) [] s := by
  refine seg_func ?_
  have key : execs body (callEnv fd L 105) = execs (body.take 2 ++ ((body.drop 2).take 4 ++ body.drop 6)) (callEnv fd L 105) := by rw [← body_split]
  rw [key]
  have hA : ∃ A', A.over (.func body (callEnv fd L 105)) [] = A' ∧ A'.handled = none ∧ A'.frames = some (callEnv fd L 105 :: l) ∧ A'.depth = A.depth + 1 := by
    refine ⟨_, rfl, hh, ?_, rfl⟩
    show A.frames.map _ = _
    rw [K.stack]; rfl
  obtain ⟨A', hA', hh', hfr', hd'⟩ := hA
  refine seg_pre _ _ ?_
  rw [hA']
  have F₀ : Loc (s.heap.hide L) L s.heap (gm nv xv) := ⟨ns, fun _ _ e => Heap.of_hide e, Heap.hide_self ..⟩
  refine gen_norm hg (T.keeps (StaysIn.hide K.stays _ hBL)) hh' F₀ hN hX fun h₁ tk₁ m₁ t₁ u₁ F₁ mN mX => ?_
  dsimp only
  refine seg_pre _ _ ?_
  rw [hA']
  have B₁ : B₀.StaysIn h₁ := fun b o e => F₁.st _ _ (StaysIn.hide K.stays _ hBL _ _ e)
  have sl₁ : Slt (fsOf l) s.heap h₁ := Slt.of_keeps fun b o hb e => F₁.st _ _ (F₀.inn e fun q => hL (q ▸ hb))
  have K₁ : Blw A' B₀ (callEnv fd L 105 :: l) h₁ := (K.move sl₁ B₁).inn F₁.ns hBL rfl (by rw [fd_kind hg L]; decide) hfr'
  refine gen_mid_idx hg T K₁ hh' (by omega) F₁.ns hBL mN mX hp hbad fun h₂ e tk₂ fl₂ sl₂ => ?_
  refine seg_wrap ?_
  rw [hA']
  refine leaveOn hfr' rfl fl₂ fun h₃ fl u => ?_
  have mono : ∀ b ∈ fsOf l, b ∈ fsOf (callEnv fd L 105 :: l) := fun b hb => by rw [fs_cons (L := L) rfl]; exact .tail _ hb
  have K₂ : Blw A' B₀ (callEnv fd L 105 :: l) h₂ := K₁.move sl₂ fl₂.st
  exact seg_end (.error (.ref e)) (.inr ⟨e, rfl, hPE _ _ ⟨fl, sl₁.trans ((sl₂.mono mono).trans ((K₂.slt u).mono mono)), rfl, rfl⟩⟩)
end
end Mine
end
section
open PySem PySem.W PyProof.Rows PySem.Calls
set_option linter.unusedVariables false
namespace Mine
set_option maxRecDepth 100000
set_option maxHeartbeats 400000
local macro_rules | `(tactic| walk_at "eval Name") => `(tactic| (with_unfolding_all refine' ldL ?F ?v ?_ ?k ?l ?d; (case F => assumption); (case k => rfl); (case l => rfl); (case d => rfl); (case v => first | assumption | rfl)))
local macro_rules | `(tactic| walk_at "eval Name") => `(tactic| (with_unfolding_all refine' ldG ?T ?F ?e ?_ ?k ?g ?x ?d; (case T => assumption); (case F => assumption); (case k => rfl); (case g => rfl); (case x => rfl); (case d => rfl); (case e => rfl)))
local macro_rules | `(tactic| walk_at "eval Name") => `(tactic| (with_unfolding_all refine' ldB ?T ?F ?e ?v ?n ?_ ?k ?g ?b ?x ?d; (case T => assumption); (case F => assumption); (case k => rfl); (case g => rfl); (case b => rfl); (case x => rfl); (case d => rfl); (case e => rfl); (case v => boot_fast); (case n => decide)))
local macro_rules | `(tactic| walk_at "storeName") => `(tactic| (with_unfolding_all refine' stL ?F ?_ ?k ?l; (case F => assumption); (case k => rfl); (case l => rfl); intro h' F'))
local macro_rules | `(tactic| walk_at "callWith ref") => `(tactic| (with_unfolding_all refine' callWith_K (K := KK _) ?X ?k ?_; (case X => exact (Txt.k (by assumption))); (case k => rfl)))
local macro_rules | `(tactic| walk_at "callWith ref") => `(tactic| (with_unfolding_all refine' callWith_K0 (K := KK _) ?X ?k ?_; (case X => exact (Txt.keeps (by assumption) (Loc.st (by assumption))).k); (case k => rfl)))
local macro_rules | `(tactic| walk_at "And") => `(tactic| (refine ⟨(Txt.keeps (by assumption) (Loc.st (by assumption))).k, ?_⟩))
local macro_rules | `(tactic| walk_at "assign Tuple") => `(tactic| (refine' unpackL ?F ?hh ?ht ?hc ?hd ?hn ?hs ?_; (case F => assumption); (case hh => assumption); (case ht => assumption); (case hc => rfl); (case hd => rfl); (case hn => rfl); (case hs => rfl); intro h' F' k'))
local macro_rules | `(tactic| walk_at "tree") => `(tactic| first | (with_reducible show wpAny _ _ _ _ _ _) | (with_reducible show (if _ then _ else _)) | (with_reducible show Frag.In _ _ ∧ _))
local macro_rules | `(tactic| walk_at "mw") => `(tactic| repeat' (first | (walk_at "tree"; walk1) | (dsimp only; walk_at "tree"; walk1)))
local macro_rules | `(tactic| walk_at "newTuple") => `(tactic| (refine newTupleL (by assumption) (fun h' a' F' ka na Na oa => ?_)))
local macro_rules | `(tactic| walk_at "exec Assign") => `(tactic| (with_reducible refine plainObj_wpAny_Assign_Attribute ?_ ?_; rotate_left; with_unfolding_all rfl))
/-- days told, each a tuple off the frames -/
def Told (l : List Env) (S : Addr) (h : Heap) (vs : List Value) (ks : List Int) : Prop := ∀ j v, vs[j]? = some v → ∃ a t u, v = .ref a ∧ h.get? a = some (dayObj (nu (ks.getD j 0)) (nmS (pl (ks.getD j 0))) t u) ∧ a ∉ fsOf l ∧ a ≠ S
theorem Told.kp {l : List Env} {S : Addr} {h h' : Heap} {vs : List Value} {ks : List Int} (x : Told l S h vs ks) (k : Kp l h h') : Told l S h' vs ks := fun j v e =>
  let ⟨a, t, u, q, o, n, r⟩ := x j v e; ⟨a, t, u, q, k _ _ n ⟨_, _, rfl⟩ o, n, r⟩
theorem Told.snoc {l : List Env} {S : Addr} {h : Heap} {vs : List Value} {ks : List Int} {v : Value} (x : Told l S h vs ks) (y : ∃ a t u, v = .ref a ∧ h.get? a = some (dayObj (nu (ks.getD vs.length 0)) (nmS (pl (ks.getD vs.length 0))) t u) ∧ a ∉ fsOf l ∧ a ≠ S) : Told l S h (vs ++ [v]) ks := fun j z e => by
  rcases Nat.lt_trichotomy j vs.length with q | q | q
  · rw [List.getElem?_append_left q] at e; exact x j z e
  · subst q
    rw [List.getElem?_append_right (Nat.le_refl _), Nat.sub_self] at e
    cases e; exact y
  · rw [List.getElem?_eq_none (by simp; omega)] at e; cases e
/-- the other generators are as they were -/
def Gx (g : Nat) (a b : Array GenState) : Prop := (∀ (i : Nat) (x : GenState), i ≠ g → a[i]? = some x → b[i]? = some x) ∧ ((∀ y ∈ a, y.bare = true) → ∀ y ∈ b, y.bare = true)
theorem Gx.refl (g : Nat) (a : Array GenState) : Gx g a a := ⟨fun _ _ _ e => e, fun h => h⟩
theorem mem_set {a : Array GenState} {g : Nat} {x y : GenState} (h : y ∈ a.setIfInBounds g x) : y = x ∨ y ∈ a := by
  obtain ⟨i, hi, e⟩ := Array.mem_iff_getElem.mp h
  have hi' : i < a.size := by simpa using hi
  have e2 : (a.setIfInBounds g x)[i]? = some y := by rw [Array.getElem?_eq_getElem hi, e]
  by_cases q : g = i
  · subst q
    rw [Array.getElem?_setIfInBounds_self_of_lt hi'] at e2
    cases e2; exact .inl rfl
  · rw [Array.getElem?_setIfInBounds_ne q] at e2
    exact .inr (Array.mem_of_getElem? e2)
theorem Gx.step {g : Nat} {a b c : Array GenState} {x : GenState} (p : Gx g a b) (q : Gk (b.setIfInBounds g .running) c) (hx : x.bare = true) : Gx g a (c.setIfInBounds g x) := by
  refine ⟨fun i z hi e => ?_, fun ha y hy => ?_⟩
  · have := q.1 i z (by rw [Array.getElem?_setIfInBounds_ne (Ne.symm hi)]; exact p.1 i z hi e)
    rw [Array.getElem?_setIfInBounds_ne (Ne.symm hi)]; exact this
  · rcases mem_set hy with rfl | hy
    · exact hx
    · refine q.2 (fun z hz => ?_) y hy
      rcases mem_set hz with rfl | hz
      · rfl
      · exact p.2 ha z hz
section
variable {prog : Program} {w : World} {A : Around} {E : Value → Shared → Prop} {s : Shared} {fd : FuncData} {body : List Stmt} {l : List Env} {L G S g : Addr} {B₀ : Heap} {ks : List Int} {m : Str → Option Value}
theorem GI.off {A : Around} {l : List Env} {L : Addr} {X : List Addr} {B : Heap} {C dx S tt : Addr} {all : List (Addr × List Value)} {nn : Nat} {vals : List Value} {i : Nat} {h h' : Heap} (x : GI A l L X B C dx S tt all nn vals i h) (k : ∀ b o, b ∉ X → h.get? b = some o → h'.get? b = some o) : GI A l L X B C dx S tt all nn vals i h' := by
  obtain ⟨K, nl, ⟨m, o, es, ep, ho, r⟩, hL, hC, CL, hX, left, ls, act, ⟨kk, x1, x2, x3, x4, x5, ⟨oS, hS, rS⟩, x7, x8, x9, x10⟩, hr, ha⟩ := x
  refine ⟨K.move (Slt.of_keeps fun b o hb e => k b o (fun q => (hX b q).2.2.2.1 hb) e) (fun b o e => k b o (fun q => by rw [(hX b q).2.2.2.2] at e; cases e) (K.stays _ _ e)), nl, ⟨m, o, es, ep, k _ _ (fun q => (hX _ q).2.2.1 rfl) ho, r⟩, hL, hC, CL, hX, left, ls, act,
    ⟨kk, x1, x2, k _ _ (fun q => (hX _ q).1 rfl) x3, x4, x5, ⟨oS, k _ _ (fun q => (hX _ q).2.1 rfl) hS, rS⟩, x7, x8, x9, ?_⟩, hr, ha⟩
  rcases x10 with x10 | ⟨a, l', i', its, n', q, ⟨o', ho', r'⟩, z⟩
  · exact .inl x10
  · exact .inr ⟨a, l', i', its, n', q, ⟨o', k _ _ (fun hb => ha a hb q) ho', r'⟩, z⟩
/-- the list's state ahead of a turn -/
def StL (prog : Program) (w : World) (A : Around) (s : Shared) (fd : FuncData) (body : List Stmt) (l : List Env) (L S g : Addr) (B₀ : Heap) (ks : List Int) (m : Str → Option Value) : Nat → List Value → Shared → Prop
  | 0, vs, s' => vs = [] ∧ B₀.StaysIn s'.heap ∧ Slt (fsOf l) s.heap s'.heap ∧ s'.os = s.os ∧ s'.gens = s.gens ∧ s'.heap.Ns L m ∧ s'.heap.get? 92 = some (tab #[])
  | i + 1, vs, s' => vs.length = i + 1 ∧ B₀.StaysIn s'.heap ∧ Slt (fsOf l) s.heap s'.heap ∧ s'.os = s.os ∧ Gx g s.gens s'.gens ∧ Told l S s'.heap vs ks ∧ S ∉ fsOf l ∧ (∃ ps, s'.heap.get? 92 = some (tab ps)) ∧
      ∃ gs, s'.gens[g]? = some gs ∧ ∃ B C dx S' tt all nn vals, IntsL vals ks ∧ B₀.StaysIn B ∧ GI A l L [S] B C dx S' tt all nn vals (i + 1) s'.heap ∧
        ∀ s'', GI A l L [S] B C dx S' tt all nn vals (i + 1) s''.heap → XO [S] s''.heap → gs.Goes (model prog w) A (RP l B₀ fun _ _ => False) (YP A l L [S] B₀ ks) (ks.length - (i + 1)) (.send .none) s''
/-- the list's state at the end -/
def FinL (s : Shared) (l : List Env) (S g : Addr) (B₀ : Heap) (ks : List Int) (vs : List Value) (s' : Shared) : Prop :=
  vs.length = ks.length ∧ B₀.StaysIn s'.heap ∧ Slt (fsOf l) s.heap s'.heap ∧ s'.os = s.os ∧ Gx g s.gens s'.gens ∧ Told l S s'.heap vs ks ∧ (∃ ps, s'.heap.get? 92 = some (tab ps))
theorem draws_ok (hg : IsGenFd w fd body) (hh : A.handled = none) (hl : s.heap.NoLimit) (hroom : A.depth < recursionLimit) (hG : B₀.IsGen G g) (hgen : s.gens[g]? = some (.fresh (.func body (callEnv fd L 105))))
    (hSG : S ≠ G) (hSB : B₀.get? S = none) (hSL : S ≠ L) (hS92 : S ≠ 92) (hSf : S ∉ fsOf l) (hk : ks ≠ [])
    (hseg : ∀ s', B₀.StaysIn s'.heap → Slt (fsOf l) s.heap s'.heap → s'.heap.Ns L m → s'.heap.get? 92 = some (tab #[]) → XO [S] s'.heap →
      Seg (model prog w) A.in1 (RP l B₀ fun _ _ => False) (YP A.in1 l L [S] B₀ ks) ks.length s' (.func body (callEnv fd L 105)) ((model prog w).den (.func body (callEnv fd L 105))) [] s') (hlim : ∀ s' : Shared, B₀.StaysIn s'.heap → s'.heap.NoLimit) :
    Draws prog w A S G ks.length (StL prog w A.in1 s fd body l L S g B₀ ks m) (FinL s l S g B₀ ks) (fun _ _ => False) := by
  have stays : ∀ i vs s', StL prog w A.in1 s fd body l L S g B₀ ks m i vs s' → B₀.StaysIn s'.heap := fun i vs s' h => by
    cases i with
    | zero => exact h.2.1
    | succ i => exact h.2.1
  refine ⟨fun i vs s' h => (hG.keeps (stays _ _ _ h)).typeIs, fun i vs s' Q E h hq => wpAny_pyIter_gen (hG.keeps (stays _ _ _ h)) hq, fun i vs s' h' tk h k => ?_, fun i vs s' c Q E hi hlen h hS hQ hF hE => ?_⟩
  · have kS : ∀ b o, b ≠ S → s'.heap.get? b = some o → h'.get? b = some o := k
    have slk : Slt (fsOf l) s'.heap h' := Slt.of_keeps fun b o hb e => kS b o (fun q => hSf (q ▸ hb)) e
    have bk : B₀.StaysIn s'.heap → B₀.StaysIn h' := fun x b o e => kS b o (ne_of_get e hSB) (x b o e)
    cases i with
    | zero =>
      obtain ⟨h1, h2, h3, h4, h5, h6, h7⟩ := h
      refine ⟨h1, bk h2, h3.trans slk, h4, h5, ?_, kS _ _ (Ne.symm hS92) h7⟩
      obtain ⟨o, es, ep, ho, r⟩ := h6
      exact ⟨o, es, ep, kS _ _ (Ne.symm hSL) ho, r⟩
    | succ i =>
      obtain ⟨h1, h2, h3, h4, h5, h6, h7, ⟨ps9, e9⟩, gs, h8, B, C, dx, S', tt, all, nn, vals, h9, h10, h11, h12⟩ := h
      refine ⟨h1, bk h2, h3.trans slk, h4, h5, ?_, h7, ⟨ps9, kS _ _ (Ne.symm hS92) e9⟩, gs, h8, B, C, dx, S', tt, all, nn, vals, h9, h10, ?_, h12⟩
      · intro j v e
        obtain ⟨a, t, u, q, o, n, r⟩ := h6 j v e
        exact ⟨a, t, u, q, kS _ _ r o, n, r⟩
      · exact h11.off fun b o hb e => kS b o (fun q => hb (by simp [q])) e
  · have hIs : s'.heap.IsGen G g := hG.keeps (stays _ _ _ h)
    have hXO : XO [S] s'.heap := fun b hb => by
      rw [List.mem_singleton] at hb; subst hb
      exact ⟨_, hS, _, _, rfl⟩
    -- what one turn gives, alike from every state
    have turn : ∀ (gs : GenState) (n : Nat), s'.gens[g]? = some gs → n = ks.length - i → B₀.StaysIn s'.heap → Slt (fsOf l) s.heap s'.heap → s'.os = s.os → Gx g s.gens s'.gens → Told l S s'.heap vs ks → (∃ ps, s'.heap.get? 92 = some (tab ps)) →
        gs.Goes (model prog w) A.in1 (RP l B₀ fun _ _ => False) (YP A.in1 l L [S] B₀ ks) n (.send .none) (s'.setGen g .running) → wpAny (model prog w) A (pyNext (.ref G)) Q E s' := by
      intro gs n hgs hn hB hsl hos hgx htold h9 hgo
      refine genNext hh (hlim s' hB) hroom hIs hgs hgo (fun v s₁ gs' hb hy => ?_) (fun s₁ hp h' hk' => ?_) (fun e s₁ hp => hp.elim)
      · unfold YP at hy
        obtain ⟨F, ⟨a, t, u, rfl, ho, ha⟩, B, C, dx, S', tt, all, nn, vals, hv, hBB, hGI, hcont⟩ := hy
        have hS₁ : s₁.heap.get? S = some (lstObj vs c) := F.kp _ _ hSf ⟨_, _, rfl⟩ hS
        have hXO₁ : XO [S] s₁.heap := fun b hb => by
          rw [List.mem_singleton] at hb; subst hb
          exact ⟨_, hS₁, _, _, rfl⟩
        cases n with
        | zero => exact (hcont s₁ hGI hXO₁).elim
        | succ n =>
          have i1 : ks.length - (n + 1 - 1) = i + 1 := by omega
          have i2 : ks.length - 1 - (n + 1 - 1) = i := by omega
          rw [i1] at hGI hcont
          rw [i2] at ho
          have n1 : n = ks.length - (i + 1) := by omega
          refine hQ _ _ (by omega) ⟨by rw [List.length_append, hlen]; rfl, ?_, hsl.trans F.sl, F.os.trans hos, hgx.step F.gk hb, ?_, hSf, F.tb h9, gs', ?_, B, C, dx, S', tt, all, nn, vals, hv, hBB, hGI, fun s'' x y => by rw [← n1]; exact hcont s'' x y⟩ hS₁
          · exact StaysIn.trans hBB hGI.K.stays
          · refine (htold.kp F.kp).snoc ⟨a, t, u, rfl, by rw [hlen]; exact ho, ha, fun q => ?_⟩
            rw [q, hS₁] at ho
            exact absurd (congrArg Obj.cls (Option.some.inj ho)) (by simp [dayObj])
          · have hlt : g < s'.gens.size := (Array.getElem?_eq_some_iff.mp hgs).1
            have := F.gk.1 g .running (by show (s'.gens.setIfInBounds g _)[g]? = _; rw [Array.getElem?_setIfInBounds_self_of_lt hlt])
            have hlt₁ : g < s₁.gens.size := (Array.getElem?_eq_some_iff.mp this).1
            show (s₁.gens.setIfInBounds g _)[g]? = _
            rw [Array.getElem?_setIfInBounds_self_of_lt hlt₁]
      · obtain ⟨h0, F, hB'⟩ := hp
        have hS₁ : s₁.heap.get? S = some (lstObj vs c) := F.kp _ _ hSf ⟨_, _, rfl⟩ hS
        refine hF _ ⟨by omega, StaysIn.trans hB' hk', hsl.trans (F.sl.trans (Slt.of_keeps fun b o _ e => hk' b o e)), F.os.trans hos, hgx.step F.gk rfl, (htold.kp F.kp).kp (Kp.of_stays hk'), let ⟨ps, e⟩ := F.tb h9; ⟨ps, hk' _ _ e⟩⟩ (hk' _ _ hS₁)
    cases i with
    | zero =>
      obtain ⟨rfl, h2, h3, h4, h5, h6, h7⟩ := h
      exact turn (.fresh (.func body (callEnv fd L 105))) _ (by rw [h5]; exact hgen) rfl h2 h3 h4 (h5 ▸ Gx.refl _ _) (fun j v e => by simp at e) ⟨_, h7⟩ ⟨rfl, hseg _ h2 h3 h6 h7 hXO⟩
    | succ i =>
      obtain ⟨h1, h2, h3, h4, h5, h6, h7, ⟨ps9, e9⟩, gs, h8, B, C, dx, S', tt, all, nn, vals, h9, h10, h11, h12⟩ := h
      exact turn gs _ h8 rfl h2 h3 h4 h5 h6 ⟨ps9, e9⟩ (h12 _ h11 hXO)
end
end Mine
end
section
open PySem PySem.W PyProof.Rows PySem.Calls
set_option linter.unusedVariables false
namespace Mine
set_option maxRecDepth 100000
set_option maxHeartbeats 400000
local macro_rules | `(tactic| walk_at "eval Name") => `(tactic| (with_unfolding_all refine' ldL ?F ?v ?_ ?k ?l ?d; (case F => assumption); (case k => rfl); (case l => rfl); (case d => rfl); (case v => first | assumption | rfl)))
local macro_rules | `(tactic| walk_at "eval Name") => `(tactic| (with_unfolding_all refine' ldG ?T ?F ?e ?_ ?k ?g ?x ?d; (case T => assumption); (case F => assumption); (case k => rfl); (case g => rfl); (case x => rfl); (case d => rfl); (case e => rfl)))
local macro_rules | `(tactic| walk_at "eval Name") => `(tactic| (with_unfolding_all refine' ldB ?T ?F ?e ?v ?n ?_ ?k ?g ?b ?x ?d; (case T => assumption); (case F => assumption); (case k => rfl); (case g => rfl); (case b => rfl); (case x => rfl); (case d => rfl); (case e => rfl); (case v => boot_fast); (case n => decide)))
local macro_rules | `(tactic| walk_at "storeName") => `(tactic| (with_unfolding_all refine' stL ?F ?_ ?k ?l; (case F => assumption); (case k => rfl); (case l => rfl); intro h' F'))
local macro_rules | `(tactic| walk_at "callWith ref") => `(tactic| (with_unfolding_all refine' callWith_K (K := KK _) ?X ?k ?_; (case X => exact (Txt.k (by assumption))); (case k => rfl)))
local macro_rules | `(tactic| walk_at "callWith ref") => `(tactic| (with_unfolding_all refine' callWith_K0 (K := KK _) ?X ?k ?_; (case X => exact (Txt.keeps (by assumption) (Loc.st (by assumption))).k); (case k => rfl)))
local macro_rules | `(tactic| walk_at "And") => `(tactic| (refine ⟨(Txt.keeps (by assumption) (Loc.st (by assumption))).k, ?_⟩))
local macro_rules | `(tactic| walk_at "assign Tuple") => `(tactic| (refine' unpackL ?F ?hh ?ht ?hc ?hd ?hn ?hs ?_; (case F => assumption); (case hh => assumption); (case ht => assumption); (case hc => rfl); (case hd => rfl); (case hn => rfl); (case hs => rfl); intro h' F' k'))
local macro_rules | `(tactic| walk_at "tree") => `(tactic| first | (with_reducible show wpAny _ _ _ _ _ _) | (with_reducible show (if _ then _ else _)) | (with_reducible show Frag.In _ _ ∧ _))
local macro_rules | `(tactic| walk_at "mw") => `(tactic| repeat' (first | (walk_at "tree"; walk1) | (dsimp only; walk_at "tree"; walk1)))
local macro_rules | `(tactic| walk_at "newTuple") => `(tactic| (refine newTupleL (by assumption) (fun h' a' F' ka na Na oa => ?_)))
local macro_rules | `(tactic| walk_at "exec Assign") => `(tactic| (with_reducible refine plainObj_wpAny_Assign_Attribute ?_ ?_; rotate_left; with_unfolding_all rfl))
section
variable {prog : Program} {w : World} {A : Around} {E : Value → Shared → Prop} {s : Shared} {fd : FuncData} {body : List Stmt} {l : List Env} {L G S g : Addr} {B₀ : Heap} {ks : List Int} {m : Str → Option Value}
/-- a refusal's end -/
def ErR (B₀ : Heap) (l : List Env) (X : String) (s : Shared) (g : Nat) (e : Value) (s' : Shared) : Prop := ∃ a, e = .ref a ∧ Fly B₀ l a X s'.heap ∧ Slt (fsOf l) s.heap s'.heap ∧ s'.os = s.os ∧ Gx g s.gens s'.gens
theorem Gx.set {g : Nat} {a b : Array GenState} {x : GenState} (p : Gx g a b) (hx : x.bare = true) : Gx g a (b.setIfInBounds g x) := by
  refine ⟨fun i z hi e => ?_, fun ha y hy => ?_⟩
  · rw [Array.getElem?_setIfInBounds_ne (Ne.symm hi)]; exact p.1 i z hi e
  · rcases mem_set hy with rfl | hy
    · exact hx
    · exact p.2 ha y hy
theorem draws_bad {X : String} (hg : IsGenFd w fd body) (hh : A.handled = none) (hroom : A.depth < recursionLimit) (hG : B₀.IsGen G g) (hgen : s.gens[g]? = some (.fresh (.func body (callEnv fd L 105)))) (hsub : isSubtype (.type X) (.type "StopIteration") = pure false)
    (hSB : B₀.get? S = none) (hSL : S ≠ L) (hSf : S ∉ fsOf l)
    (hseg : ∀ s' PE, B₀.StaysIn s'.heap → Slt (fsOf l) s.heap s'.heap → s'.heap.Ns L m → (∀ e s₁, Refd B₀ l X s' e s₁ → PE e s₁) →
      Seg (model prog w) A.in1 (RP l B₀ PE) (fun _ _ _ _ _ => False) 1 s' (.func body (callEnv fd L 105)) ((model prog w).den (.func body (callEnv fd L 105))) [] s') (hlim : ∀ s' : Shared, B₀.StaysIn s'.heap → s'.heap.NoLimit) :
    Draws prog w A S G 0 (fun i vs s' => vs = [] ∧ B₀.StaysIn s'.heap ∧ Slt (fsOf l) s.heap s'.heap ∧ s'.os = s.os ∧ s'.gens = s.gens ∧ s'.heap.Ns L m) (fun _ _ => False) (ErR B₀ l X s g) := by
  refine ⟨fun i vs s' h => (hG.keeps h.2.1).typeIs, fun i vs s' Q E h hq => wpAny_pyIter_gen (hG.keeps h.2.1) hq, fun i vs s' h' tk h kS => ?_, fun i vs s' c Q E hi hlen h hS hQ hF hE => ?_⟩
  · obtain ⟨h1, h2, h3, h4, h5, h6⟩ := h
    refine ⟨h1, fun b o e => kS b o (ne_of_get e hSB) (h2 b o e), h3.trans (Slt.of_keeps fun b o hb e => kS b o (fun q => hSf (q ▸ hb)) e), h4, h5, ?_⟩
    obtain ⟨o, es, ep, ho, r⟩ := h6
    exact ⟨o, es, ep, kS _ _ (Ne.symm hSL) ho, r⟩
  · obtain ⟨rfl, h2, h3, h4, h5, h6⟩ := h
    refine genNext (n := 1) (gs := .fresh (.func body (callEnv fd L 105))) (PE := fun e s₁ => Refd B₀ l X (s'.setGen g .running) e s₁) hh (hlim s' h2) hroom (hG.keeps h2) (by rw [h5]; exact hgen) ⟨rfl, hseg _ _ h2 h3 h6 fun e s₁ r => r⟩ (fun v s₁ gs' hb hy => hy.elim) (fun s₁ hp h' hk' => by cases hp.1) (fun e s₁ hp => ⟨⟨X, hp.fly.type, hsub⟩, ?_, hE _ _ ⟨e, rfl, hp.fly, h3.trans hp.slt, hp.os.trans h4, ?_⟩⟩)
    · obtain ⟨o, _, _, ho, _⟩ := hG
      exact ⟨o, hp.fly.st _ _ ho⟩
    · show Gx g s.gens (s₁.gens.setIfInBounds g .finished)
      rw [hp.gens, ← h5]
      exact ((Gx.refl g _).set rfl).set rfl
/-- list of the generator -/
theorem list_bad {X : String} {Q : Value → Shared → Prop} (hg : IsGenFd w fd body) (hh : A.handled = none) (hroom : A.depth < recursionLimit) (hG : B₀.IsGen G g) (hgen : s.gens[g]? = some (.fresh (.func body (callEnv fd L 105)))) (hsub : isSubtype (.type X) (.type "StopIteration") = pure false)
    (hB : B₀.StaysIn s.heap) (ns : s.heap.Ns L m) (hf : ∀ b ∈ fsOf l, ∃ o, s.heap.get? b = some o)
    (hseg : ∀ s' PE, B₀.StaysIn s'.heap → Slt (fsOf l) s.heap s'.heap → s'.heap.Ns L m → (∀ e s₁, Refd B₀ l X s' e s₁ → PE e s₁) →
      Seg (model prog w) A.in1.in1.in1 (RP l B₀ PE) (fun _ _ _ _ _ => False) 1 s' (.func body (callEnv fd L 105)) ((model prog w).den (.func body (callEnv fd L 105))) [] s') (hlim : ∀ s' : Shared, B₀.StaysIn s'.heap → s'.heap.NoLimit)
    (hE : ∀ e s', ErR B₀ l X s g e s' → E e s') :
    wpAny (model prog w) A (call (.type "list") [.ref G]) Q E s := by
  have hSB : B₀.get? s.heap.objs.size = none := by
    cases e : B₀.get? s.heap.objs.size with
    | none => rfl
    | some o => exact absurd (Heap.lt_size (hB _ _ e)) (Nat.lt_irrefl _)
  have pk : ∀ b o, s.heap.get? b = some o → (s.heap.push { cls := .type "list", data := .seq #[] }).get? b = some o := fun b o e => Heap.get?_push_of_some _ e
  refine listDraws (n := 0) (draws_bad (A := A.in1.in1) (X := X) (L := L) (m := m) hg hh hroom hG hgen hsub hSB ?_ ?_ hseg hlim) (by decide) ?_ ⟨rfl, fun b o e => pk _ _ (hB _ _ e), Slt.of_keeps fun b o _ e => pk b o e, rfl, rfl, ?_⟩ (fun _ _ _ h _ => h.elim) hE
  · intro q
    have := ns.lt
    rw [← q] at this
    exact Nat.lt_irrefl _ this
  · intro q
    obtain ⟨o, ho⟩ := hf _ q
    exact absurd (Heap.lt_size ho) (Nat.lt_irrefl _)
  · obtain ⟨o, _, _, ho, _⟩ := hG
    exact Heap.lt_size (hB _ _ ho)
  · exact ns.push _
theorem list_ok {Q : Value → Shared → Prop} (hg : IsGenFd w fd body) (hh : A.handled = none) (hroom : A.depth < recursionLimit) (hG : B₀.IsGen G g) (hgen : s.gens[g]? = some (.fresh (.func body (callEnv fd L 105))))
    (hB : B₀.StaysIn s.heap) (ns : s.heap.Ns L m) (hf : ∀ b ∈ fsOf l, ∃ o, s.heap.get? b = some o) (h92 : s.heap.get? 92 = some (tab #[])) (hk : ks ≠ []) (hlen : ks.length ≤ sizeLine)
    (hseg : ∀ s', B₀.StaysIn s'.heap → Slt (fsOf l) s.heap s'.heap → s'.heap.Ns L m → s'.heap.get? 92 = some (tab #[]) → XO [s.heap.objs.size] s'.heap →
      Seg (model prog w) A.in1.in1.in1 (RP l B₀ fun _ _ => False) (YP A.in1.in1.in1 l L [s.heap.objs.size] B₀ ks) ks.length s' (.func body (callEnv fd L 105)) ((model prog w).den (.func body (callEnv fd L 105))) [] s') (hlim : ∀ s' : Shared, B₀.StaysIn s'.heap → s'.heap.NoLimit)
    (hQ : ∀ s' vs c, FinL s l s.heap.objs.size g B₀ ks vs s' → s'.heap.get? s.heap.objs.size = some (lstObj vs c) → Q (.ref s.heap.objs.size) s') :
    wpAny (model prog w) A (call (.type "list") [.ref G]) Q E s := by
  have hSB : B₀.get? s.heap.objs.size = none := by
    cases e : B₀.get? s.heap.objs.size with
    | none => rfl
    | some o => exact absurd (Heap.lt_size (hB _ _ e)) (Nat.lt_irrefl _)
  have pk : ∀ b o, s.heap.get? b = some o → (s.heap.push { cls := .type "list", data := .seq #[] }).get? b = some o := fun b o e => Heap.get?_push_of_some _ e
  have hI : G < s.heap.objs.size := by
    obtain ⟨o, _, _, ho, _⟩ := hG
    exact Heap.lt_size (hB _ _ ho)
  refine listDraws (n := ks.length) (draws_ok (A := A.in1.in1) (L := L) (m := m) hg hh (hlim s hB) hroom hG hgen (Nat.ne_of_gt hI) hSB ?_ ?_ ?_ hk hseg hlim) hlen hI ⟨rfl, fun b o e => pk _ _ (hB _ _ e), Slt.of_keeps fun b o _ e => pk b o e, rfl, rfl, ?_, pk _ _ h92⟩ hQ (fun _ _ h => h.elim)
  · intro q
    have := ns.lt
    rw [← q] at this
    exact Nat.lt_irrefl _ this
  · exact Nat.ne_of_gt (Heap.lt_size h92)
  · intro q
    obtain ⟨o, ho⟩ := hf _ q
    exact absurd (Heap.lt_size ho) (Nat.lt_irrefl _)
  · exact ns.push _
end
end Mine
end
section
open PySem PySem.W PyProof.Rows PySem.Calls
set_option linter.unusedVariables false
namespace Mine
set_option maxRecDepth 100000
set_option maxHeartbeats 400000
local macro_rules | `(tactic| walk_at "eval Name") => `(tactic| (with_unfolding_all refine' ldL ?F ?v ?_ ?k ?l ?d; (case F => assumption); (case k => rfl); (case l => rfl); (case d => rfl); (case v => first | assumption | rfl)))
local macro_rules | `(tactic| walk_at "eval Name") => `(tactic| (with_unfolding_all refine' ldG ?T ?F ?e ?_ ?k ?g ?x ?d; (case T => assumption); (case F => assumption); (case k => rfl); (case g => rfl); (case x => rfl); (case d => rfl); (case e => rfl)))
local macro_rules | `(tactic| walk_at "eval Name") => `(tactic| (with_unfolding_all refine' ldB ?T ?F ?e ?v ?n ?_ ?k ?g ?b ?x ?d; (case T => assumption); (case F => assumption); (case k => rfl); (case g => rfl); (case b => rfl); (case x => rfl); (case d => rfl); (case e => rfl); (case v => boot_fast); (case n => decide)))
local macro_rules | `(tactic| walk_at "storeName") => `(tactic| (with_unfolding_all refine' stL ?F ?_ ?k ?l; (case F => assumption); (case k => rfl); (case l => rfl); intro h' F'))
local macro_rules | `(tactic| walk_at "callWith ref") => `(tactic| (with_unfolding_all refine' callWith_K (K := KK _) ?X ?k ?_; (case X => exact (Txt.k (by assumption))); (case k => rfl)))
local macro_rules | `(tactic| walk_at "callWith ref") => `(tactic| (with_unfolding_all refine' callWith_K0 (K := KK _) ?X ?k ?_; (case X => exact (Txt.keeps (by assumption) (Loc.st (by assumption))).k); (case k => rfl)))
local macro_rules | `(tactic| walk_at "And") => `(tactic| (refine ⟨(Txt.keeps (by assumption) (Loc.st (by assumption))).k, ?_⟩))
local macro_rules | `(tactic| walk_at "assign Tuple") => `(tactic| (refine' unpackL ?F ?hh ?ht ?hc ?hd ?hn ?hs ?_; (case F => assumption); (case hh => assumption); (case ht => assumption); (case hc => rfl); (case hd => rfl); (case hn => rfl); (case hs => rfl); intro h' F' k'))
local macro_rules | `(tactic| walk_at "tree") => `(tactic| first | (with_reducible show wpAny _ _ _ _ _ _) | (with_reducible show (if _ then _ else _)) | (with_reducible show Frag.In _ _ ∧ _))
local macro_rules | `(tactic| walk_at "mw") => `(tactic| repeat' (first | (walk_at "tree"; walk1) | (dsimp only; walk_at "tree"; walk1)))
local macro_rules | `(tactic| walk_at "newTuple") => `(tactic| (refine newTupleL (by assumption) (fun h' a' F' ka na Na oa => ?_)))
local macro_rules | `(tactic| walk_at "exec Assign") => `(tactic| (with_reducible refine plainObj_wpAny_Assign_Attribute ?_ ?_; rotate_left; with_unfolding_all rfl))
section
variable {prog : Program} {w : World} {A : Around} {E : Value → Shared → Prop} {s : Shared} {mg mb : Str → Option Value} {fd : FuncData} {body : List Stmt} {l : List Env} {B h' : Heap} {G L : Addr} {nv xv : Value} {N : Int} {p tk : Nat} {bm : Addr} {ob : Obj}
theorem lenR (a b : Int) : (rng a b).length = (b - a).toNat := by simp [rng]
theorem after_make_ok {Q : Value → Shared → Prop} (hg : IsGenFd w fd body) (T : Txt w mg mb B) (K : Blw A B l s.heap) (M : BMod B mainGlobals mg bm ob) (hh : A.handled = none) (hroom : A.depth + 20 < recursionLimit) (hU : A.units + 100 < cLine) (hTab : s.heap.get? 92 = some (tab #[])) (hB92 : B.get? 92 = none) (hf92 : 92 ∉ fsOf l)
    (hN : NumOf nv N) (hX : NamOf xv (nmS p)) (h1 : 1 ≤ N) (h2 : N ≤ 13) (hp : p < 20)
    (k : s.heap.StaysIn h') (hG : s.heap.get? G = none) (hL : s.heap.get? L = none) (GL : G ≠ L) (iG : h'.IsGen G s.gens.size) (ns : h'.Ns L (gm nv xv))
    (hQ : ∀ s'' a vs c, (∀ b o, b ≠ 92 → b ∉ fsOf l → s.heap.get? b = some o → s''.heap.get? b = some o) → Slt (fsOf l) s.heap s''.heap → s''.os = s.os → Gk s.gens s''.gens → s.heap.get? a = none → s''.heap.get? a = some (lstObj vs c) → vs.length = 259 →
      Told l a s''.heap vs (rng (cnt N p) 260 ++ rng 1 (cnt N p)) → (∃ ps, s''.heap.get? 92 = some (tab ps)) → Q (.ref a) s'') :
    wpAny (model prog w) A (call (.type "list") [.ref G]) Q E { s with heap := h', gens := s.gens.push (.fresh (.func body (callEnv fd L 105))), toks := tk } := by
  have fsn : ∀ b ∈ fsOf l, ∃ o, s.heap.get? b = some o := fun b hb => let ⟨o, ho, _⟩ := K.there hb; ⟨o, ho⟩
  have hLf : L ∉ fsOf l := fun hb => by obtain ⟨o, ho⟩ := fsn _ hb; rw [hL] at ho; cases ho
  have hGf : G ∉ fsOf l := fun hb => by obtain ⟨o, ho⟩ := fsn _ hb; rw [hG] at ho; cases ho
  have G92 : G ≠ 92 := fun q => by rw [q, hTab] at hG; cases hG
  have st₀ : (hideAll h' (L :: 92 :: fsOf l)).StaysIn h' := fun b o e => of_hideAll _ e
  have no₀ : ∀ b ∈ L :: 92 :: fsOf l, (hideAll h' (L :: 92 :: fsOf l)).get? b = none := fun b hb => hideAll_none _ hb
  have in₀ : ∀ b o, b ≠ L → b ≠ 92 → b ∉ fsOf l → h'.get? b = some o → (hideAll h' (L :: 92 :: fsOf l)).get? b = some o := fun b o q1 q2 q3 e => hideAll_get _ e fun hb => by
    simp only [List.mem_cons] at hb
    rcases hb with z | z | z
    · exact q1 z
    · exact q2 z
    · exact q3 z
  have hBL : B.get? L = none := by
    cases e : B.get? L with
    | none => rfl
    | some o => have := K.stays _ _ e; rw [hL] at this; cases this
  have BB : B.StaysIn (hideAll h' (L :: 92 :: fsOf l)) := fun b o e => in₀ b o (ne_of_get e hBL) (ne_of_get e hB92) (K.notin e) (k _ _ (K.stays _ _ e))
  generalize hideAll h' (L :: 92 :: fsOf l) = B₀ at st₀ no₀ in₀ BB
  have sz : ∀ b o, h'.get? b = some o → b ≠ h'.objs.size := fun b o e q => absurd (Heap.lt_size e) (by rw [q]; exact Nat.lt_irrefl _)
  have hlen : (rng (cnt N p) 260 ++ rng 1 (cnt N p)).length = 259 := by
    have := cnt_ok h1 h2 hp
    rw [List.length_append, lenR, lenR]
    omega
  have iG₀ : B₀.IsGen G s.gens.size := by
    obtain ⟨o, nm, qn, ho, r⟩ := iG
    exact ⟨o, nm, qn, in₀ _ _ GL G92 hGf ho, r⟩
  refine list_ok (s := { s with heap := h', gens := s.gens.push (.fresh (.func body (callEnv fd L 105))), toks := tk }) (l := l) (L := L) (m := gm nv xv) (ks := rng (cnt N p) 260 ++ rng 1 (cnt N p)) hg hh (by omega) iG₀ ?_ st₀ ns (fun b hb => let ⟨o, ho⟩ := fsn b hb; ⟨o, k _ _ ho⟩) (k _ _ hTab) (fun q => by rw [q] at hlen; cases hlen) (by rw [hlen]; decide) (fun s' hB' hs' ns' h92' hXO' => ?_) (fun s' hB' => (T.keeps (StaysIn.trans BB hB')).t.nolimit) (fun s' vs c hf hS => ?_)
  · show (s.gens.push _)[s.gens.size]? = _
    simp
  · rw [hlen]
    refine gen_seg_ok (bm := bm) (ob := ob) hg (T.keeps BB) ?_ (M.keeps BB) hh (by show A.depth + 20 < recursionLimit; omega) ?_ h92' (no₀ _ (by simp)) ns' (no₀ _ (by simp)) hLf hf92 hN hX h1 h2 hp hXO' fun b hb => ?_
    · have K' : Blw A.in1.in1.in1 B l s.heap := ⟨K.stack, K.stays, K.frames⟩
      exact (((K'.keeps k).move hs' (StaysIn.trans BB hB')).onto B₀ hB' fun b hb => no₀ b (by simp [hb]))
    · trace_state
      show _ + 60 < cLine
      simp only [Around.in1_units]
      omega
    · rw [List.mem_singleton] at hb
      subst hb
      refine ⟨fun q => ?_, fun q => ?_, fun q => ?_, ?_⟩
      · obtain ⟨o, ho⟩ := fsn _ q; exact sz _ _ (k _ _ ho) rfl
      · exact absurd ns.lt (by rw [← q]; exact Nat.lt_irrefl _)
      · exact sz _ _ (k _ _ hTab) q.symm
      · cases e : B₀.get? h'.objs.size with
        | none => rfl
        | some o => exact absurd rfl (sz _ _ (st₀ _ _ e))
  · obtain ⟨f1, f2, f3, f4, f5, f6, f7⟩ := hf
    refine hQ s' _ vs c (fun b o q1 q2 e => f2 _ _ (in₀ _ _ (fun q => by rw [q, hL] at e; cases e) q1 q2 (k _ _ e))) ((Slt.of_keeps fun b o _ e => k b o e).trans f3) f4 ⟨fun i x e => ?_, fun ha => f5.2 fun y hy => ?_⟩ ?_ hS (f1.trans hlen) f6 f7
    · refine f5.1 i x (Nat.ne_of_lt (Array.getElem?_eq_some_iff.mp e).1) ?_
      show (s.gens.push _)[i]? = _
      exact (Array.getElem?_push_lt (Array.getElem?_eq_some_iff.mp e).1).trans (congrArg some (Array.getElem?_eq_some_iff.mp e).2)
    · rcases Array.mem_push.mp hy with hy | rfl
      · exact ha y hy
      · rfl
    · cases e : s.heap.get? h'.objs.size with
      | none => rfl
      | some o => exact absurd rfl (sz _ _ (k _ _ e))
end
end Mine
end
section
open PySem PySem.W PyProof.Rows PySem.Calls
set_option linter.unusedVariables false
namespace Mine
set_option maxRecDepth 100000
set_option maxHeartbeats 400000
local macro_rules | `(tactic| walk_at "eval Name") => `(tactic| (with_unfolding_all refine' ldL ?F ?v ?_ ?k ?l ?d; (case F => assumption); (case k => rfl); (case l => rfl); (case d => rfl); (case v => first | assumption | rfl)))
local macro_rules | `(tactic| walk_at "eval Name") => `(tactic| (with_unfolding_all refine' ldG ?T ?F ?e ?_ ?k ?g ?x ?d; (case T => assumption); (case F => assumption); (case k => rfl); (case g => rfl); (case x => rfl); (case d => rfl); (case e => rfl)))
local macro_rules | `(tactic| walk_at "eval Name") => `(tactic| (with_unfolding_all refine' ldB ?T ?F ?e ?v ?n ?_ ?k ?g ?b ?x ?d; (case T => assumption); (case F => assumption); (case k => rfl); (case g => rfl); (case b => rfl); (case x => rfl); (case d => rfl); (case e => rfl); (case v => boot_fast); (case n => decide)))
local macro_rules | `(tactic| walk_at "storeName") => `(tactic| (with_unfolding_all refine' stL ?F ?_ ?k ?l; (case F => assumption); (case k => rfl); (case l => rfl); intro h' F'))
local macro_rules | `(tactic| walk_at "callWith ref") => `(tactic| (with_unfolding_all refine' callWith_K (K := KK _) ?X ?k ?_; (case X => exact (Txt.k (by assumption))); (case k => rfl)))
local macro_rules | `(tactic| walk_at "callWith ref") => `(tactic| (with_unfolding_all refine' callWith_K0 (K := KK _) ?X ?k ?_; (case X => exact (Txt.keeps (by assumption) (Loc.st (by assumption))).k); (case k => rfl)))
local macro_rules | `(tactic| walk_at "And") => `(tactic| (refine ⟨(Txt.keeps (by assumption) (Loc.st (by assumption))).k, ?_⟩))
local macro_rules | `(tactic| walk_at "assign Tuple") => `(tactic| (refine' unpackL ?F ?hh ?ht ?hc ?hd ?hn ?hs ?_; (case F => assumption); (case hh => assumption); (case ht => assumption); (case hc => rfl); (case hd => rfl); (case hn => rfl); (case hs => rfl); intro h' F' k'))
local macro_rules | `(tactic| walk_at "tree") => `(tactic| first | (with_reducible show wpAny _ _ _ _ _ _) | (with_reducible show (if _ then _ else _)) | (with_reducible show Frag.In _ _ ∧ _))
local macro_rules | `(tactic| walk_at "mw") => `(tactic| repeat' (first | (walk_at "tree"; walk1) | (dsimp only; walk_at "tree"; walk1)))
local macro_rules | `(tactic| walk_at "newTuple") => `(tactic| (refine newTupleL (by assumption) (fun h' a' F' ka na Na oa => ?_)))
local macro_rules | `(tactic| walk_at "exec Assign") => `(tactic| (with_reducible refine plainObj_wpAny_Assign_Attribute ?_ ?_; rotate_left; with_unfolding_all rfl))
theorem Fly.down {B B' h : Heap} {l : List Env} {e : Addr} {X : String} (x : Fly B l e X h) (st : B'.StaysIn B) : Fly B' l e X h := by
  have nn : ∀ b, B.get? b = none → B'.get? b = none := fun b q => by
    cases z : B'.get? b with
    | none => rfl
    | some o => have := st _ _ z; rw [q] at this; cases this
  obtain ⟨a0, h1, h2, h3, oe, vs, T, oT, ts, he, hcls, hd, g1, hnT, hTe, hT, hdT, g3⟩ := x
  exact ⟨a0, StaysIn.trans st h1, nn _ h2, funFrames_ground _ h3 (fun b hb => nn _ (h3.mem hb).1), oe, vs, T, oT, ts, he, hcls, hd, g1, nn _ hnT, hTe, hT, hdT, g3⟩
section
variable {prog : Program} {w : World} {A : Around} {E : Value → Shared → Prop} {s : Shared} {mg mb : Str → Option Value} {fd : FuncData} {body : List Stmt} {l : List Env} {B h' : Heap} {G L : Addr} {nv xv : Value} {N : Int} {p tk : Nat} {X : String} {x : Str}
/-- list of a generator that refuses -/
theorem after_make_bad {Q : Value → Shared → Prop} (hg : IsGenFd w fd body) (T : Txt w mg mb B) (K : Blw A B l s.heap) (hh : A.handled = none) (hroom : A.depth + 20 < recursionLimit)
    (hN : NumOf nv N) (hX : NamOf xv x) (hbad : (X = "ValueError" ∧ (13 < N ∨ (N ≤ 13 ∧ tz.toArray.any (isNm x) = false))) ∨ (X = "IndexError" ∧ N < 1 ∧ ∃ p, p < 20 ∧ x = nmS p))
    (k : s.heap.StaysIn h') (hG : s.heap.get? G = none) (hL : s.heap.get? L = none) (GL : G ≠ L) (iG : h'.IsGen G s.gens.size) (ns : h'.Ns L (gm nv xv))
    (hE : ∀ s'' e, Fly (gr s.heap l) l e X s''.heap → Slt (fsOf l) s.heap s''.heap → s''.os = s.os → Gk s.gens s''.gens → E (.ref e) s'') :
    wpAny (model prog w) A (call (.type "list") [.ref G]) Q E { s with heap := h', gens := s.gens.push (.fresh (.func body (callEnv fd L 105))), toks := tk } := by
  have fsn : ∀ b ∈ fsOf l, ∃ o, s.heap.get? b = some o := fun b hb => let ⟨o, ho, _⟩ := K.there hb; ⟨o, ho⟩
  have hLf : L ∉ fsOf l := fun hb => by obtain ⟨o, ho⟩ := fsn _ hb; rw [hL] at ho; cases ho
  have hGf : G ∉ fsOf l := fun hb => by obtain ⟨o, ho⟩ := fsn _ hb; rw [hG] at ho; cases ho
  have st₀ : (hideAll h' (L :: fsOf l)).StaysIn h' := fun b o e => of_hideAll _ e
  have no₀ : ∀ b ∈ L :: fsOf l, (hideAll h' (L :: fsOf l)).get? b = none := fun b hb => hideAll_none _ hb
  have in₀ : ∀ b o, b ≠ L → b ∉ fsOf l → h'.get? b = some o → (hideAll h' (L :: fsOf l)).get? b = some o := fun b o q1 q3 e => hideAll_get _ e fun hb => by
    simp only [List.mem_cons] at hb
    rcases hb with z | z
    · exact q1 z
    · exact q3 z
  have hBL : B.get? L = none := by
    cases e : B.get? L with
    | none => rfl
    | some o => have := K.stays _ _ e; rw [hL] at this; cases this
  have BB : B.StaysIn (hideAll h' (L :: fsOf l)) := fun b o e => in₀ b o (ne_of_get e hBL) (K.notin e) (k _ _ (K.stays _ _ e))
  generalize hideAll h' (L :: fsOf l) = B₀ at st₀ no₀ in₀ BB
  have iG₀ : B₀.IsGen G s.gens.size := by
    obtain ⟨o, nm, qn, ho, r⟩ := iG
    exact ⟨o, nm, qn, in₀ _ _ GL hGf ho, r⟩
  have hsub : isSubtype (.type X) (.type "StopIteration") = pure false := by
    rcases hbad with ⟨rfl, _⟩ | ⟨rfl, _⟩
    · rw [isSubtype_type]; kernel_rfl
    · rw [isSubtype_type]; kernel_rfl
  refine list_bad (s := { s with heap := h', gens := s.gens.push (.fresh (.func body (callEnv fd L 105))), toks := tk }) (l := l) (L := L) (m := gm nv xv) (X := X) hg hh (by omega) iG₀ ?_ hsub st₀ ns (fun b hb => let ⟨o, ho⟩ := fsn b hb; ⟨o, k _ _ ho⟩) (fun s' PE hB' hs' ns' hPE => ?_) (fun s' hB' => (T.keeps (StaysIn.trans BB hB')).t.nolimit) (fun e s' hf => ?_)
  · show (s.gens.push _)[s.gens.size]? = _
    simp
  · have K' : Blw A.in1.in1.in1 B l s.heap := ⟨K.stack, K.stays, K.frames⟩
    have K₃ := (((K'.keeps k).move hs' (StaysIn.trans BB hB')).onto B₀ hB' fun b hb => no₀ b (by simp [hb]))
    rcases hbad with ⟨rfl, hb⟩ | ⟨rfl, hb, p, hp, rfl⟩
    · exact gen_seg_val hg (T.keeps BB) K₃ hh ns' (no₀ _ (by simp)) hLf hN hX hb hPE
    · exact gen_seg_idx hg (T.keeps BB) K₃ hh (by show A.depth + 10 < recursionLimit; omega) ns' (no₀ _ (by simp)) hLf hN hX hp hb hPE
  · obtain ⟨a, rfl, f1, f2, f3, f4⟩ := hf
    refine hE s' a ?_ ((Slt.of_keeps fun b o _ e => k b o e).trans f2) f3 ⟨fun i x e => ?_, fun ha => f4.2 fun y hy => ?_⟩
    · exact f1.down fun b o e => in₀ _ _ (fun q => by have := of_hideAll _ e; rw [q, hL] at this; cases this) (fun hb => by rw [gr_no hb] at e; cases e) (k _ _ (gr_st _ _ _ _ e))
    · refine f4.1 i x (Nat.ne_of_lt (Array.getElem?_eq_some_iff.mp e).1) ?_
      show (s.gens.push _)[i]? = _
      exact (Array.getElem?_push_lt (Array.getElem?_eq_some_iff.mp e).1).trans (congrArg some (Array.getElem?_eq_some_iff.mp e).2)
    · rcases Array.mem_push.mp hy with hy | rfl
      · exact ha y hy
      · rfl
end
end Mine
end
section
open PySem PySem.W PyProof.Rows PySem.Calls
set_option linter.unusedVariables false
namespace Mine
set_option maxRecDepth 100000
set_option maxHeartbeats 4000000
local macro_rules | `(tactic| walk_at "eval Name") => `(tactic| (with_unfolding_all refine' ldL ?F ?v ?_ ?k ?l ?d; (case F => assumption); (case k => rfl); (case l => rfl); (case d => rfl); (case v => first | assumption | rfl)))
local macro_rules | `(tactic| walk_at "eval Name") => `(tactic| (with_unfolding_all refine' ldG ?T ?F ?e ?_ ?k ?g ?x ?d; (case T => assumption); (case F => assumption); (case k => rfl); (case g => rfl); (case x => rfl); (case d => rfl); (case e => rfl)))
local macro_rules | `(tactic| walk_at "eval Name") => `(tactic| (with_unfolding_all refine' ldB ?T ?F ?e ?v ?n ?_ ?k ?g ?b ?x ?d; (case T => assumption); (case F => assumption); (case k => rfl); (case g => rfl); (case b => rfl); (case x => rfl); (case d => rfl); (case e => rfl); (case v => boot_fast); (case n => decide)))
local macro_rules | `(tactic| walk_at "storeName") => `(tactic| (with_unfolding_all refine' stL ?F ?_ ?k ?l; (case F => assumption); (case k => rfl); (case l => rfl); intro h' F'))
local macro_rules | `(tactic| walk_at "callWith ref") => `(tactic| (with_unfolding_all refine' callWith_K (K := KK _) ?X ?k ?_; (case X => exact (Txt.k (by assumption))); (case k => rfl)))
local macro_rules | `(tactic| walk_at "callWith ref") => `(tactic| (with_unfolding_all refine' callWith_K0 (K := KK _) ?X ?k ?_; (case X => exact (Txt.keeps (by assumption) (Loc.st (by assumption))).k); (case k => rfl)))
local macro_rules | `(tactic| walk_at "And") => `(tactic| (refine ⟨(Txt.keeps (by assumption) (Loc.st (by assumption))).k, ?_⟩))
local macro_rules | `(tactic| walk_at "assign Tuple") => `(tactic| (refine' unpackL ?F ?hh ?ht ?hc ?hd ?hn ?hs ?_; (case F => assumption); (case hh => assumption); (case ht => assumption); (case hc => rfl); (case hd => rfl); (case hn => rfl); (case hs => rfl); intro h' F' k'))
local macro_rules | `(tactic| walk_at "tree") => `(tactic| first | (with_reducible show wpAny _ _ _ _ _ _) | (with_reducible show (if _ then _ else _)) | (with_reducible show Frag.In _ _ ∧ _))
local macro_rules | `(tactic| walk_at "mw") => `(tactic| repeat' (first | (walk_at "tree"; walk1) | (dsimp only; walk_at "tree"; walk1)))
local macro_rules | `(tactic| walk_at "newTuple") => `(tactic| (refine newTupleL (by assumption) (fun h' a' F' ka na Na oa => ?_)))
local macro_rules | `(tactic| walk_at "exec Assign") => `(tactic| (with_reducible refine plainObj_wpAny_Assign_Attribute ?_ ?_; rotate_left; with_unfolding_all rfl))
section
variable {prog : Program} {w : World} {A : Around} {E : Value → Shared → Prop} {s : Shared} {mg mb : Str → Option Value} {R : Result → Shared → Prop} {l : List Env} {B : Heap} {N : Int} {p : Nat} {bm : Addr} {ob : Obj} {md : Int} {t0 t u : Tok} {env : Env} {pos : Pos} {nv xv : Value} {args : List Value} {x : Str} {X : String}
theorem isGenFd (w : World) : ∃ fd body, IsGenFd w fd body := ⟨_, _, ⟨_, rfl, rfl⟩, rfl⟩
/-- list(tzolkin_generator(..)), told -/
theorem make_list_ok {Q : Value → Shared → Prop} (T : Txt w mg mb B) (K : Blw A B l s.heap) (M : BMod B mainGlobals mg bm ob) (hh : A.handled = none) (hroom : A.depth + 20 < recursionLimit) (hU : A.units + 100 < cLine) (hTab : s.heap.get? 92 = some (tab #[])) (hB92 : B.get? 92 = none) (hf92 : 92 ∉ fsOf l)
    (ha : args = [nv, xv] ∨ (args = [] ∧ nv = .none ∧ xv = .none)) (hN : NumOf nv N) (hX : NamOf xv (nmS p)) (h1 : 1 ≤ N) (h2 : N ≤ 13) (hp : p < 20)
    (hQ : ∀ s'' a vs c, (∀ b o, b ≠ 92 → b ∉ fsOf l → s.heap.get? b = some o → s''.heap.get? b = some o) → Slt (fsOf l) s.heap s''.heap → s''.os = s.os → Gk s.gens s''.gens → s.heap.get? a = none → s''.heap.get? a = some (lstObj vs c) → vs.length = 259 →
      Told l a s''.heap vs (rng (cnt N p) 260 ++ rng 1 (cnt N p)) → (∃ ps, s''.heap.get? 92 = some (tab ps)) → Q (.ref a) s'') :
    wpAny (model prog w) A (call (.ref 105) args) (fun v s₁ => wpAny (model prog w) A (spliced (backTo pos (starEach [] env))) (fun vs s₂ => wpAny (model prog w) A (call (.type "list") (v :: vs)) Q E s₂) E s₁) E s := by
  obtain ⟨fd, body, hg⟩ := isGenFd w
  refine wpAny_call ?_
  refine gen_make (T.keeps K.stays) (by omega) hg ha fun h' G L tk k nG nL GL iG ns => ?_
  dsimp only
  walk_at "mw"
  exact after_make_ok hg T K M hh hroom hU hTab hB92 hf92 hN hX h1 h2 hp k nG nL GL iG ns hQ
/-- the same, refused -/
theorem make_list_bad {Q : Value → Shared → Prop} (T : Txt w mg mb B) (K : Blw A B l s.heap) (hh : A.handled = none) (hroom : A.depth + 20 < recursionLimit)
    (ha : args = [nv, xv] ∨ (args = [] ∧ nv = .none ∧ xv = .none)) (hN : NumOf nv N) (hX : NamOf xv x)
    (hbad : (X = "ValueError" ∧ (13 < N ∨ (N ≤ 13 ∧ tz.toArray.any (isNm x) = false))) ∨ (X = "IndexError" ∧ N < 1 ∧ ∃ p, p < 20 ∧ x = nmS p))
    (hE : ∀ s'' e, Fly (gr s.heap l) l e X s''.heap → Slt (fsOf l) s.heap s''.heap → s''.os = s.os → Gk s.gens s''.gens → E (.ref e) s'') :
    wpAny (model prog w) A (call (.ref 105) args) (fun v s₁ => wpAny (model prog w) A (spliced (backTo pos (starEach [] env))) (fun vs s₂ => wpAny (model prog w) A (call (.type "list") (v :: vs)) Q E s₂) E s₁) E s := by
  obtain ⟨fd, body, hg⟩ := isGenFd w
  refine wpAny_call ?_
  refine gen_make (T.keeps K.stays) (by omega) hg ha fun h' G L tk k nG nL GL iG ns => ?_
  dsimp only
  walk_at "mw"
  exact after_make_bad hg T K hh hroom hN hX hbad k nG nL GL iG ns hE
/-- made in a frame of a def of the text -/
theorem make_list_in {env₀ : Env} {h₀ : Heap} {tk : Nat} {m : Str → Option Value} {Q : Value → Shared → Prop} (T : Txt w mg mb B) (K : Blw A B l s.heap) (M : BMod B mainGlobals mg bm ob) (hh : A.handled = none) (hroom : A.depth + 30 < recursionLimit) (hU : A.units + 200 < cLine) (hTab : s.heap.get? 92 = some (tab #[])) (hB92 : B.get? 92 = none) (hf92 : 92 ∉ fsOf l)
    (F : Loc s.heap s.heap.objs.size h₀ m) (ha : args = [nv, xv] ∨ (args = [] ∧ nv = .none ∧ xv = .none)) (hN : NumOf nv N) (hX : NamOf xv (nmS p)) (h1 : 1 ≤ N) (h2 : N ≤ 13) (hp : p < 20) (hf : env₀.frame = some s.heap.objs.size) (hk : env₀.scope.kind = .function)
    (hQ : ∀ s'' a vs c, (∀ b o, b ≠ 92 → b ∉ fsOf l → s.heap.get? b = some o → s''.heap.get? b = some o) → Slt (fsOf l) s.heap s''.heap → s''.os = s.os → Gk s.gens s''.gens → s.heap.get? a = none → s''.heap.get? a = some (lstObj vs c) → vs.length = 259 →
      Told l a s''.heap vs (rng (cnt N p) 260 ++ rng 1 (cnt N p)) → (∃ ps, s''.heap.get? 92 = some (tab ps)) → Q (.ref a) s'') :
    wpAny (model prog w) (A.deeper env₀) (call (.ref 105) args) (fun v s₁ => wpAny (model prog w) (A.deeper env₀) (spliced (backTo pos (starEach [] env))) (fun vs s₂ => wpAny (model prog w) (A.deeper env₀) (call (.type "list") (v :: vs)) Q E s₂) E s₁) E { heap := h₀, gens := s.gens, drawn := s.drawn, toks := tk, os := s.os } := by
  have hBL : B.get? s.heap.objs.size = none := Heap.StaysIn.fresh K.stays
  have K' := (K.keeps F.st).deep F.ns hBL hf hk
  have hfs : ∀ b, b ∈ fsOf (env₀ :: l) ↔ b = s.heap.objs.size ∨ b ∈ fsOf l := fun b => by rw [fs_cons hf]; exact List.mem_cons
  have nL : ∀ b o, s.heap.get? b = some o → b ≠ s.heap.objs.size := fun b o e => ne_of_get e F.nl
  refine make_list_ok (s := { heap := h₀, gens := s.gens, drawn := s.drawn, toks := tk, os := s.os }) T K' M hh (by show A.depth + 1 + 20 < recursionLimit; omega) (by simp only [units_deeper]; omega) (F.st _ _ hTab) hB92 (fun q => ((hfs _).mp q).elim (nL _ _ hTab) hf92) ha hN hX h1 h2 hp fun s'' a vs c k sl os gk na oa hl told x92 => ?_
  refine hQ s'' a vs c (fun b o q1 q2 e => k b o q1 (fun q => ((hfs b).mp q).elim (nL b o e) q2) (F.st _ _ e)) ((Slt.of_keeps fun b o _ e => F.st b o e).trans (sl.mono fun b hb => (hfs b).mpr (.inr hb))) os gk ?_ oa hl (fun j v e => ?_) x92
  · cases e : s.heap.get? a with
    | none => rfl
    | some o => have := F.st _ _ e; dsimp only at na; rw [na] at this; cases this
  · obtain ⟨b, t', u', q, o, n, r⟩ := told j v e
    exact ⟨b, t', u', q, o, fun hb => n ((hfs b).mpr (.inr hb)), r⟩
/-- where a walk begins -/
def startN (md N : Int) : Int := if md = 0 ∨ md = 2 then N else 13
def startP (md : Int) (p : Nat) : Nat := if md = 0 ∨ md = 1 then p else 19
theorem nmS_len : ∀ p, p < 20 → (nmS p).length < 1000 ∧ (nmS p).length ≠ 0 := by decide +kernel
theorem namStr {p : Nat} (hp : p < 20) (u : Tok) : NamOf (.str (nmS p) u) (nmS p) := .inr ⟨_, _, rfl, (nmS_len p hp).1, by rw [if_neg (nmS_len p hp).2]⟩
theorem numInt {N : Int} (h : 1 ≤ N) (u : Tok) : NumOf (.int N u) N := .inr ⟨_, _, rfl, by rw [if_neg (by omega)]⟩
theorem ajaw : nmS 19 = Str.ofString "Ajaw" := rfl
theorem walk_spec (T : Txt w mg mb B) (K : Blw A B l s.heap) (M : BMod B mainGlobals mg bm ob) (hh : A.handled = none) (hroom : A.depth + 30 < recursionLimit) (hU : A.units + 200 < cLine) (hTab : s.heap.get? 92 = some (tab #[])) (hB92 : B.get? 92 = none) (hf92 : 92 ∉ fsOf l)
    (h1 : 1 ≤ N) (h2 : N ≤ 13) (hp : p < 20) (hm0 : 0 ≤ md) (hm5 : md < 5)
    (h : ∀ s'' a vs c, (∀ b o, b ≠ 92 → b ∉ fsOf l → s.heap.get? b = some o → s''.heap.get? b = some o) → Slt (fsOf l) s.heap s''.heap → s''.os = s.os → Gk s.gens s''.gens → s.heap.get? a = none → s''.heap.get? a = some (lstObj vs c) → vs.length = 259 →
      Told l a s''.heap vs (rng (cnt (startN md N) (startP md p)) 260 ++ rng 1 (cnt (startN md N) (startP md p))) → (∃ ps, s''.heap.get? 92 = some (tab ps)) → R (.ok (.ret (.ref a))) s'') :
    codeAny (model prog w) A (.call (.ref 138) ⟨[.int md t0, .int N t, .str (nmS p) u], []⟩) R s := by
  have T' : Txt w mg mb s.heap := T.keeps K.stays
  refine enterP (binds := [(Str.ofString "mode", .int md t0), (Str.ofString "number", .int N t), (Str.ofString "name", .str (nmS p) u)]) (T.keeps K.stays) (by omega) rfl rfl rfl rfl rfl (by decide) rfl rfl rfl rfl fun h₀ F => ?_
  try dsimp only
  walk_at "mw"
  · refine make_list_in T K M hh hroom hU hTab hB92 hf92 F (.inl rfl) (numInt h1 t) (namStr hp u) h1 h2 hp rfl rfl fun s'' a vs c k sl os gk na oa hl told x92 => ?_
    refine h s'' a vs c k sl os gk na oa hl ?_ x92
    rw [startN, startP, if_pos (by omega), if_pos (by omega)]; exact told
  · refine make_list_in T K M hh hroom hU hTab hB92 hf92 F (.inl rfl) (.inl ⟨rfl, rfl⟩) (namStr hp u) (by decide) (by decide) hp rfl rfl fun s'' a vs c k sl os gk na oa hl told x92 => ?_
    refine h s'' a vs c k sl os gk na oa hl ?_ x92
    rw [startN, startP, if_neg (by omega), if_pos (by omega)]; exact told
  · refine make_list_in T K M hh hroom hU hTab hB92 hf92 F (.inl rfl) (numInt h1 t) (.inl ⟨rfl, ajaw⟩) h1 h2 (by decide) rfl rfl fun s'' a vs c k sl os gk na oa hl told x92 => ?_
    refine h s'' a vs c k sl os gk na oa hl ?_ x92
    rw [startN, startP, if_pos (by omega), if_neg (by omega)]; exact told
  · refine make_list_in T K M hh hroom hU hTab hB92 hf92 F (.inr ⟨rfl, rfl, rfl⟩) (.inl ⟨rfl, rfl⟩) (.inl ⟨rfl, ajaw⟩) (by decide) (by decide) (by decide) rfl rfl fun s'' a vs c k sl os gk na oa hl told x92 => ?_
    refine h s'' a vs c k sl os gk na oa hl ?_ x92
    rw [startN, startP, if_neg (by omega), if_neg (by omega)]; exact told
  · refine make_list_in (N := 13) (p := 19) T K M hh hroom hU hTab hB92 hf92 F (.inl rfl) (.inr ⟨_, _, rfl, rfl⟩) (.inr ⟨_, _, rfl, by decide, rfl⟩) (by decide) (by decide) (by decide) rfl rfl fun s'' a vs c k sl os gk na oa hl told x92 => ?_
    refine h s'' a vs c k sl os gk na oa hl ?_ x92
    rw [startN, startP, if_neg (by omega), if_neg (by omega)]; exact told
end
end Mine
end
section
open PySem PySem.W PyProof.Rows PySem.Calls
set_option linter.unusedVariables false
namespace Mine
set_option maxRecDepth 100000
set_option maxHeartbeats 4000000
local macro_rules | `(tactic| walk_at "eval Name") => `(tactic| (with_unfolding_all refine' ldL ?F ?v ?_ ?k ?l ?d; (case F => assumption); (case k => rfl); (case l => rfl); (case d => rfl); (case v => first | assumption | rfl)))
local macro_rules | `(tactic| walk_at "eval Name") => `(tactic| (with_unfolding_all refine' ldG ?T ?F ?e ?_ ?k ?g ?x ?d; (case T => assumption); (case F => assumption); (case k => rfl); (case g => rfl); (case x => rfl); (case d => rfl); (case e => rfl)))
local macro_rules | `(tactic| walk_at "eval Name") => `(tactic| (with_unfolding_all refine' ldB ?T ?F ?e ?v ?n ?_ ?k ?g ?b ?x ?d; (case T => assumption); (case F => assumption); (case k => rfl); (case g => rfl); (case b => rfl); (case x => rfl); (case d => rfl); (case e => rfl); (case v => boot_fast); (case n => decide)))
local macro_rules | `(tactic| walk_at "storeName") => `(tactic| (with_unfolding_all refine' stL ?F ?_ ?k ?l; (case F => assumption); (case k => rfl); (case l => rfl); intro h' F'))
local macro_rules | `(tactic| walk_at "callWith ref") => `(tactic| (with_unfolding_all refine' callWith_K (K := KK _) ?X ?k ?_; (case X => exact (Txt.k (by assumption))); (case k => rfl)))
local macro_rules | `(tactic| walk_at "callWith ref") => `(tactic| (with_unfolding_all refine' callWith_K0 (K := KK _) ?X ?k ?_; (case X => exact (Txt.keeps (by assumption) (Loc.st (by assumption))).k); (case k => rfl)))
local macro_rules | `(tactic| walk_at "And") => `(tactic| (refine ⟨(Txt.keeps (by assumption) (Loc.st (by assumption))).k, ?_⟩))
local macro_rules | `(tactic| walk_at "assign Tuple") => `(tactic| (refine' unpackL ?F ?hh ?ht ?hc ?hd ?hn ?hs ?_; (case F => assumption); (case hh => assumption); (case ht => assumption); (case hc => rfl); (case hd => rfl); (case hn => rfl); (case hs => rfl); intro h' F' k'))
local macro_rules | `(tactic| walk_at "tree") => `(tactic| first | (with_reducible show wpAny _ _ _ _ _ _) | (with_reducible show (if _ then _ else _)) | (with_reducible show Frag.In _ _ ∧ _))
local macro_rules | `(tactic| walk_at "mw") => `(tactic| repeat' (first | (walk_at "tree"; walk1) | (dsimp only; walk_at "tree"; walk1)))
local macro_rules | `(tactic| walk_at "newTuple") => `(tactic| (refine newTupleL (by assumption) (fun h' a' F' ka na Na oa => ?_)))
local macro_rules | `(tactic| walk_at "exec Assign") => `(tactic| (with_reducible refine plainObj_wpAny_Assign_Attribute ?_ ?_; rotate_left; with_unfolding_all rfl))
section
variable {prog : Program} {w : World} {A : Around} {E : Value → Shared → Prop} {s : Shared} {mg mb : Str → Option Value} {R : Result → Shared → Prop} {l : List Env} {B : Heap} {N n : Int} {t u : Tok} {x x' : Str} {X : String}
theorem inFrame {env : Env} {h₀ h₁ : Heap} {e : Addr} {m : Str → Option Value} (K : Blw A B l s.heap) (F : Loc s.heap s.heap.objs.size h₀ m) (hf : env.frame = some s.heap.objs.size) (fl : Fly (gr h₀ (env :: l)) (env :: l) e X h₁) (sl : Slt (fsOf (env :: l)) h₀ h₁) :
    ∃ B', Fly B' (env :: l) e X h₁ ∧ B'.get? s.heap.objs.size = none ∧ B.StaysIn B' ∧ (∀ b o, b ∉ fsOf l → s.heap.get? b = some o → B'.get? b = some o) ∧ h₁.Ns s.heap.objs.size m ∧ Slt (fsOf l) s.heap h₁ := by
  have hL : s.heap.objs.size ∈ fsOf (env :: l) := by rw [fs_cons hf]; exact .head _
  have nL : ∀ b o, s.heap.get? b = some o → b ≠ s.heap.objs.size := fun b o e => ne_of_get e F.nl
  have up : ∀ b o, b ∉ fsOf l → s.heap.get? b = some o → (gr h₀ (env :: l)).get? b = some o := fun b o q e => gr_get (F.st _ _ e) fun z => by
    rw [fs_cons hf] at z
    exact (List.mem_cons.mp z).elim (nL b o e) q
  exact ⟨_, fl, gr_no hL, fun b o e => up b o (K.notin e) (K.stays _ _ e), up, sl.ns F.ns hL, (Slt.of_keeps fun b o _ e => F.st b o e).trans (sl.mono fun b hb => by rw [fs_cons hf]; exact .tail _ hb)⟩
theorem refusal_spec (T : Txt w mg mb B) (K : Blw A B l s.heap) (hh : A.handled = none) (hroom : A.depth + 30 < recursionLimit)
    (hN : NumOf (.int n t) N) (hX : NamOf (.str x u) x')
    (hbad : (X = "ValueError" ∧ (13 < N ∨ (N ≤ 13 ∧ tz.toArray.any (isNm x') = false))) ∨ (X = "IndexError" ∧ N < 1 ∧ ∃ p, p < 20 ∧ x' = nmS p))
    (h : ∀ s'' u', (∀ b o, b ∉ fsOf l → s.heap.get? b = some o → s''.heap.get? b = some o) → Slt (fsOf l) s.heap s''.heap → s''.os = s.os → Gk s.gens s''.gens → R (.ok (.ret (.str (Str.ofString (if X = "ValueError" then "value" else "index")) u'))) s'') :
    codeAny (model prog w) A (.call (.ref 145) ⟨[.int n t, .str x u], []⟩) R s := by
  have T' : Txt w mg mb s.heap := T.keeps K.stays
  refine enterP (binds := [(Str.ofString "number", .int n t), (Str.ofString "name", .str x u)]) (T.keeps K.stays) (by omega) rfl rfl rfl rfl rfl (by decide) rfl rfl rfl rfl fun h₀ F => ?_
  try dsimp only
  have hBL : B.get? s.heap.objs.size = none := Heap.StaysIn.fresh K.stays
  walk_at "mw"
  refine wpAny_Try_except ?_
  walk_at "mw"
  refine make_list_bad T ((K.keeps F.st).deep F.ns hBL rfl rfl) hh (by show A.depth + 1 + 20 < recursionLimit; omega) (.inl rfl) hN hX hbad fun s₁ e fl sl os gk => ?_
  dsimp only at fl sl os gk
  obtain ⟨B', fl, hBL', BB, up, ns₁, sl₁⟩ := inFrame K F rfl fl sl
  have TB := T.keeps BB
  clear sl
  refine noteOn (Around.frames_deeper K.stack) rfl fl fun h₃ a0 held u₃ => ?_
  refine wpAny_landsW held fun h₄ fl₄ u₄ => ?_
  have ns₄ := (u₃.trans u₄).ns ns₁
  have K₁ : Blw A B' l s₁.heap := (K.move sl₁ (StaysIn.trans BB fl.st)).onto B' fl.st fun b hb => by
    obtain ⟨_, h2, h3⟩ := fl
    exact (Heap.FunFrames.mem h3.2.1 (show b ∈ fsOf _ by rw [fs_cons rfl]; exact .tail _ hb)).1
  have sl₄ : Slt (fsOf l) s.heap h₄ := sl₁.trans (K₁.slt (u₃.trans u₄))
  have fin : ∀ h₅ h₆ tk u', B'.StaysIn h₅ → h₄.UpToSlots h₅ → h₅.StaysIn h₆ → R (.ok (.ret (.str (Str.ofString (if X = "ValueError" then "value" else "index")) u'))) { s₁ with heap := h₆, toks := tk } := fun h₅ h₆ tk u' fl₅ u₅ k₆ =>
    h _ u' (fun b o q e => k₆ _ _ (fl₅ _ _ (up b o q e))) ((sl₄.trans ((K₁.move (K₁.slt (u₃.trans u₄)) fl₄.1).slt u₅)).trans (Slt.of_keeps fun b o _ e => k₆ b o e)) os gk
  have F₄ : Loc B' s.heap.objs.size h₄ _ := ⟨ns₄, fl₄.1, hBL'⟩
  clear F h
  rcases hbad with ⟨rfl, _⟩ | ⟨rfl, _⟩
  · refine handleK (b := true) (T' := "ValueError") TB ns₄ hBL' fl₄ rfl (by kernel_rfl) (by decide) rfl rfl rfl rfl rfl rfl (by rw [isSubtype_type]; kernel_rfl) (by kernel_rfl) (by rw [isSubtype_type]; kernel_rfl) ?_
    rw [if_pos rfl]
    intro h₅ fl₅ u₅
    refine wpAny_noRaise ?_
    walk_at "mw"
    exact fin _ _ _ _ fl₅.1 u₅ fun _ _ e => e
  · refine handleK (b := false) (T' := "ValueError") TB ns₄ hBL' fl₄ rfl (by kernel_rfl) (by decide) rfl rfl rfl rfl rfl rfl (by rw [isSubtype_type]; kernel_rfl) (by kernel_rfl) (by rw [isSubtype_type]; kernel_rfl) ?_
    rw [if_neg Bool.false_ne_true]
    refine handleK (b := true) (T' := "IndexError") TB ns₄ hBL' fl₄ rfl (by kernel_rfl) (by decide) rfl rfl rfl rfl rfl rfl (by rw [isSubtype_type]; kernel_rfl) (by kernel_rfl) (by rw [isSubtype_type]; kernel_rfl) ?_
    rw [if_pos rfl]
    intro h₅ fl₅ u₅
    refine wpAny_noRaise ?_
    walk_at "mw"
    exact fin _ _ _ _ fl₅.1 u₅ fun _ _ e => e
end
end Mine
end
section
open PySem PySem.W PyProof.Rows PySem.Calls
set_option linter.unusedVariables false
namespace Mine
set_option maxRecDepth 100000
set_option maxHeartbeats 4000000
local macro_rules | `(tactic| walk_at "eval Name") => `(tactic| (with_unfolding_all refine' ldL ?F ?v ?_ ?k ?l ?d; (case F => assumption); (case k => rfl); (case l => rfl); (case d => rfl); (case v => first | assumption | rfl)))
local macro_rules | `(tactic| walk_at "eval Name") => `(tactic| (with_unfolding_all refine' ldG ?T ?F ?e ?_ ?k ?g ?x ?d; (case T => assumption); (case F => assumption); (case k => rfl); (case g => rfl); (case x => rfl); (case d => rfl); (case e => rfl)))
local macro_rules | `(tactic| walk_at "eval Name") => `(tactic| (with_unfolding_all refine' ldB ?T ?F ?e ?v ?n ?_ ?k ?g ?b ?x ?d; (case T => assumption); (case F => assumption); (case k => rfl); (case g => rfl); (case b => rfl); (case x => rfl); (case d => rfl); (case e => rfl); (case v => boot_fast); (case n => decide)))
local macro_rules | `(tactic| walk_at "storeName") => `(tactic| (with_unfolding_all refine' stL ?F ?_ ?k ?l; (case F => assumption); (case k => rfl); (case l => rfl); intro h' F'))
local macro_rules | `(tactic| walk_at "callWith ref") => `(tactic| (with_unfolding_all refine' callWith_K (K := KK _) ?X ?k ?_; (case X => exact (Txt.k (by assumption))); (case k => rfl)))
local macro_rules | `(tactic| walk_at "callWith ref") => `(tactic| (with_unfolding_all refine' callWith_K0 (K := KK _) ?X ?k ?_; (case X => exact (Txt.keeps (by assumption) (Loc.st (by assumption))).k); (case k => rfl)))
local macro_rules | `(tactic| walk_at "And") => `(tactic| (refine ⟨(Txt.keeps (by assumption) (Loc.st (by assumption))).k, ?_⟩))
local macro_rules | `(tactic| walk_at "assign Tuple") => `(tactic| (refine' unpackL ?F ?hh ?ht ?hc ?hd ?hn ?hs ?_; (case F => assumption); (case hh => assumption); (case ht => assumption); (case hc => rfl); (case hd => rfl); (case hn => rfl); (case hs => rfl); intro h' F' k'))
local macro_rules | `(tactic| walk_at "tree") => `(tactic| first | (with_reducible show wpAny _ _ _ _ _ _) | (with_reducible show (if _ then _ else _)) | (with_reducible show Frag.In _ _ ∧ _))
local macro_rules | `(tactic| walk_at "mw") => `(tactic| repeat' (first | (walk_at "tree"; walk1) | (dsimp only; walk_at "tree"; walk1)))
local macro_rules | `(tactic| walk_at "newTuple") => `(tactic| (refine newTupleL (by assumption) (fun h' a' F' ka na Na oa => ?_)))
local macro_rules | `(tactic| walk_at "exec Assign") => `(tactic| (with_reducible refine plainObj_wpAny_Assign_Attribute ?_ ?_; rotate_left; with_unfolding_all rfl))
theorem isListKeeps {h h' : Heap} {a : Addr} {items : Array Value} (hl : h.IsList a items) (k : h.StaysIn h') : h'.IsList a items := let ⟨o, ho, hc, n, hd⟩ := hl; ⟨o, k _ _ ho, hc, n, hd⟩
section
variable {prog : Program} {w : World} {A : Around} {E : Value → Shared → Prop} {s : Shared} {mg mb : Str → Option Value} {R : Result → Shared → Prop} {a : Addr} {vs : List Value} {ns : List Int} {k : Nat} {t : Tok}
theorem list_item {value slice : Expr} {v : Value} {i : Nat} {Q : Value → Shared → Prop} (hl : s.heap.IsList a vs.toArray) (hi : i < 2 ^ 63) (hv : vs[i]? = some v) (h : Q v s)
    (hs : subscripted slice false (.ref a) (.int i t) = operate [.ref a, .int i t] (getItem (.ref a) (.int i t)) := by with_unfolding_all rfl) :
    wpAny (model prog w) A (subscriptTail value slice (.ref a) (.int i t)) Q E s :=
  tail_any hl.typeIs slot_list_getitem.lookup (wpAny_getItem_list hl (Int.natCast_nonneg _) (by omega) (by rw [List.getElem?_toArray]; exact hv) h) hs
theorem cell_spec (T : Txt w mg mb s.heap) (hh : A.handled = none) (hroom : A.depth < recursionLimit) (hl : s.heap.IsList a vs.toArray) (hI : IntsAre vs ns) (hn : ns.length ≤ 63) (hk : k < 10)
    (h : ∀ h' t' tk', s.heap.StaysIn h' → R (.ok (.ret (.int (ns.getD k 0) t'))) { s with heap := h', toks := tk' }) :
    codeAny (model prog w) A (.call (.ref 119) ⟨[.ref a, .int k t], []⟩) R s := by
  refine enterP (binds := [(Str.ofString "script", .ref a), (Str.ofString "k", .int k t)]) T (by omega) rfl rfl rfl rfl rfl (by decide) rfl rfl rfl rfl fun h₀ F => ?_
  try dsimp only
  have hl₀ : h₀.IsList a vs.toArray := isListKeeps hl F.st
  have hlen := hI.length
  walk_at "mw"
  refine call_len_list hl₀ (by rw [List.size_toArray]; omega) ?_
  walk_at "mw"
  · exact h _ _ _ F.st
  · rename_i hlt
    rw [List.size_toArray] at hlt
    have q := fun t tk => h h₀ t tk F.st
    rw [List.getD_eq_getElem?_getD, List.getElem?_eq_none (by omega)] at q
    exact q _ _
end
end Mine
end
section
open PySem PySem.W PyProof.Rows PySem.Calls
set_option linter.unusedVariables false
namespace Mine
set_option maxRecDepth 100000
set_option maxHeartbeats 4000000
local macro_rules | `(tactic| walk_at "eval Name") => `(tactic| (with_unfolding_all refine' ldL ?F ?v ?_ ?k ?l ?d; (case F => assumption); (case k => rfl); (case l => rfl); (case d => rfl); (case v => first | assumption | rfl)))
local macro_rules | `(tactic| walk_at "eval Name") => `(tactic| (with_unfolding_all refine' ldG ?T ?F ?e ?_ ?k ?g ?x ?d; (case T => assumption); (case F => assumption); (case k => rfl); (case g => rfl); (case x => rfl); (case d => rfl); (case e => rfl)))
local macro_rules | `(tactic| walk_at "eval Name") => `(tactic| (with_unfolding_all refine' ldB ?T ?F ?e ?v ?n ?_ ?k ?g ?b ?x ?d; (case T => assumption); (case F => assumption); (case k => rfl); (case g => rfl); (case b => rfl); (case x => rfl); (case d => rfl); (case e => rfl); (case v => boot_fast); (case n => decide)))
local macro_rules | `(tactic| walk_at "storeName") => `(tactic| (with_unfolding_all refine' stL ?F ?_ ?k ?l; (case F => assumption); (case k => rfl); (case l => rfl); intro h' F'))
local macro_rules | `(tactic| walk_at "callWith ref") => `(tactic| (with_unfolding_all refine' callWith_K (K := KK _) ?X ?k ?_; (case X => exact (Txt.k (by assumption))); (case k => rfl)))
local macro_rules | `(tactic| walk_at "callWith ref") => `(tactic| (with_unfolding_all refine' callWith_K0 (K := KK _) ?X ?k ?_; (case X => exact (Txt.keeps (by assumption) (Loc.st (by assumption))).k); (case k => rfl)))
local macro_rules | `(tactic| walk_at "And") => `(tactic| (refine ⟨(Txt.keeps (by assumption) (Loc.st (by assumption))).k, ?_⟩))
local macro_rules | `(tactic| walk_at "assign Tuple") => `(tactic| (refine' unpackL ?F ?hh ?ht ?hc ?hd ?hn ?hs ?_; (case F => assumption); (case hh => assumption); (case ht => assumption); (case hc => rfl); (case hd => rfl); (case hn => rfl); (case hs => rfl); intro h' F' k'))
local macro_rules | `(tactic| walk_at "tree") => `(tactic| first | (with_reducible show wpAny _ _ _ _ _ _) | (with_reducible show (if _ then _ else _)) | (with_reducible show Frag.In _ _ ∧ _))
local macro_rules | `(tactic| walk_at "mw") => `(tactic| repeat' (first | (walk_at "tree"; walk1) | (dsimp only; walk_at "tree"; walk1)))
local macro_rules | `(tactic| walk_at "newTuple") => `(tactic| (refine newTupleL (by assumption) (fun h' a' F' ka na Na oa => ?_)))
local macro_rules | `(tactic| walk_at "exec Assign") => `(tactic| (with_reducible refine plainObj_wpAny_Assign_Attribute ?_ ?_; rotate_left; with_unfolding_all rfl))
theorem nmS_inj : ∀ p, p < 20 → ∀ q, q < 20 → (nmS p == nmS q) = (p == q) := by decide +kernel
/-- all places are among the twenty names -/
def Pls (ds : List (Int × Nat)) : Prop := ∀ d ∈ ds, d.2 < 20
/-- the day that an object is -/
def dayOf (h : Heap) : Value → Option (Int × Str)
  | .ref a => match h.get? a with
    | some o => match o.data with
      | .seq vs _ => match vs.toList with
        | [.int n _, .str x _] => some (n, x)
        | _ => none
      | _ => none
    | none => none
  | _ => none
theorem dayOf_is {h : Heap} {a : Addr} {n : Int} {x : Str} {t u : Tok} (e : h.get? a = some (dayObj n x t u)) : dayOf h (.ref a) = some (n, x) := by
  simp only [dayOf, e, dayObj]
section
variable {prog : Program} {w : World} {A : Around} {E : Value → Shared → Prop} {s : Shared} {a b : Addr} {n n' : Int} {x x' : Str} {t u t' u' : Tok}
theorem dayTup {h : Heap} (e : h.get? a = some (dayObj n x t u)) : h.IsTuple a #[Value.int n t, .str x u] := ⟨_, e, rfl, _, rfl⟩
theorem dayItems (j : Nat) (h1 : j < (#[Value.int n t, .str x u] : Array Value).size) (h2 : j < (#[Value.int n' t', .str x' u'] : Array Value).size) :
    SeqAt.EqAt A s (#[Value.int n t, .str x u])[j] (#[Value.int n' t', .str x' u'])[j] (if j = 0 then n == n' else x == x') := by
  match j, h1, h2 with
  | 0, _, _ => exact SeqAt.EqAt.int_int n t n' t'
  | 1, _, _ => exact SeqAt.EqAt.str_str x u x' u'
theorem dayRc (ha : s.heap.get? a = some (dayObj n x t u)) (hb : s.heap.get? b = some (dayObj n' x' t' u')) (hu : A.units < cLine) : SeqAt.RcAt A s (.ref a) (.ref b) (n == n' && x == x') := by
  have := SeqAt.RcAt.tuples (A := A) (e := fun j => if j = 0 then n == n' else x == x') (dayTup ha) (dayTup hb) hu fun j h1 h2 => dayItems j h1 h2
  simpa [List.range_succ] using this
theorem dayNe (ha : s.heap.get? a = some (dayObj n x t u)) (hb : s.heap.get? b = some (dayObj n' x' t' u')) (hu : A.units < cLine) : SeqAt.RcNeAt A s (.ref a) (.ref b) (!(n == n' && x == x')) := by
  have := SeqAt.RcNeAt.tuples (A := A) (e := fun j => if j = 0 then n == n' else x == x') (dayTup ha) (dayTup hb) hu fun j h1 h2 => dayItems j h1 h2
  simpa [List.range_succ] using this
theorem dayEq (ha : s.heap.get? a = some (dayObj n x t u)) (hb : s.heap.get? b = some (dayObj n' x' t' u')) (hu : A.units < cLine) : SeqAt.EqAt A s (.ref a) (.ref b) (n == n' && x == x') := by
  by_cases q : a = b
  · subst q
    rw [ha] at hb
    have := dayOf_is ha
    injection hb with hb
    have e : dayOf s.heap (.ref a) = some (n', x') := dayOf_is (ha.trans (congrArg some hb))
    rw [this] at e
    cases e
    have := SeqAt.EqAt.same (A := A) (s := s) (.ref a)
    simpa using this
  · exact SeqAt.EqAt.of_refs q (dayRc ha hb hu)
end
theorem DayL.at {h : Heap} : ∀ {vs : List Value} {ds : List (Int × Nat)}, DayL h vs ds → ∀ (i : Nat) (v : Value), vs[i]? = some v → ∃ a d t u, v = .ref a ∧ ds[i]? = some d ∧ h.get? a = some (dayObj d.1 (nmS d.2) t u)
  | _, _, .nil, i, v, e => by simp at e
  | _, _, .cons ho r, 0, v, e => by
    simp only [List.getElem?_cons_zero, Option.some.injEq] at e
    exact ⟨_, _, _, _, e.symm, rfl, ho⟩
  | _, _, .cons _ r, i + 1, v, e => by
    rw [List.getElem?_cons_succ] at e
    obtain ⟨a, d, t, u, q, z, o⟩ := r.at i v e
    exact ⟨a, d, t, u, q, by rw [List.getElem?_cons_succ]; exact z, o⟩
theorem DayL.of {h : Heap} : ∀ {vs : List Value} {ds : List (Int × Nat)}, vs.length = ds.length → (∀ (i : Nat) (v : Value) (d : Int × Nat), vs[i]? = some v → ds[i]? = some d → ∃ a t u, v = .ref a ∧ h.get? a = some (dayObj d.1 (nmS d.2) t u)) → DayL h vs ds
  | [], [], _, _ => .nil
  | [], _ :: _, e, _ => by cases e
  | _ :: _, [], e, _ => by cases e
  | v :: vs, (n, p) :: ds, e, k => by
    obtain ⟨a, t, u, rfl, ho⟩ := k 0 v (n, p) rfl rfl
    exact .cons ho (DayL.of (Nat.succ.inj e) fun i v d q1 q2 => k (i + 1) v d (by rw [List.getElem?_cons_succ]; exact q1) (by rw [List.getElem?_cons_succ]; exact q2))
theorem DayL.take {h : Heap} : ∀ {vs : List Value} {ds : List (Int × Nat)}, DayL h vs ds → ∀ k : Nat, DayL h (vs.take k) (ds.take k)
  | _, _, _, 0 => .nil
  | _, _, .nil, _ + 1 => .nil
  | _, _, .cons e r, k + 1 => .cons e (r.take k)
theorem DayL.drop {h : Heap} : ∀ {vs : List Value} {ds : List (Int × Nat)}, DayL h vs ds → ∀ k : Nat, DayL h (vs.drop k) (ds.drop k)
  | _, _, r, 0 => r
  | _, _, .nil, _ + 1 => .nil
  | _, _, .cons e r, k + 1 => r.drop k
theorem DayL.filter {h : Heap} {p : Value → Bool} {q : Int × Nat → Bool} (hp : ∀ a n x t u, h.get? a = some (dayObj n (nmS x) t u) → x < 20 → p (.ref a) = q (n, x)) : ∀ {vs : List Value} {ds : List (Int × Nat)}, DayL h vs ds → Pls ds → DayL h (vs.filter p) (ds.filter q)
  | _, _, .nil, _ => .nil
  | _, _, .cons (n := n) (p := x) (vs := vs) (ds := ds) e r, hl => by
    have ih := DayL.filter hp r fun d hd => hl d (.tail _ hd)
    have hx := hp _ _ _ _ _ e (hl _ (.head _))
    rw [List.filter_cons, List.filter_cons, hx]
    split
    · exact .cons e ih
    · exact ih
theorem Told.days {l : List Env} {S : Addr} {h : Heap} {vs : List Value} {ks : List Int} (x : Told l S h vs ks) (hl : vs.length = ks.length) : DayL h vs (ks.map fun k => (nu k, pl k)) := by
  refine DayL.of (by rw [hl, List.length_map]) fun i v d e1 e2 => ?_
  obtain ⟨a, t, u, q, ho, _⟩ := x i v e1
  rw [List.getElem?_map] at e2
  obtain ⟨k, hk, rfl⟩ := Option.map_eq_some_iff.mp e2
  refine ⟨a, t, u, q, ?_⟩
  rw [List.getD_eq_getElem?_getD, hk] at ho
  exact ho
section
variable {prog : Program} {w : World} {A : Around} {E : Value → Shared → Prop} {s : Shared} {H : Heap} {L a b : Addr} {m : Str → Option Value} {vs ws : List Value} {ds : List (Int × Nat)} {n n' : Nat} {Q : Value → Shared → Prop}
/-- two lists of the same days -/
theorem listsSame (ha : s.heap.IsList a vs.toArray) (hb : s.heap.IsList b ws.toArray) (da : DayL s.heap vs ds) (db : DayL s.heap ws ds) (hu : A.units + 5 < cLine) (h : Q (.bool false) s) : wpAny (model prog w) A (compareOp .NotEq (.ref a) (.ref b)) Q E s := by
  have hl : vs.length = ws.length := da.length.trans db.length.symm
  refine SeqAt.RcNeAt.lists (e := fun _ => true) ha hb (by simpa using hl) (by omega) (fun j h1 h2 => ?_) prog w E Q ?_
  · obtain ⟨a1, d1, t1, u1, q1, z1, o1⟩ := da.at j vs[j] (List.getElem?_eq_getElem (by simpa using h1))
    obtain ⟨a2, d2, t2, u2, q2, z2, o2⟩ := db.at j ws[j] (List.getElem?_eq_getElem (by simpa using h2))
    rw [z1] at z2
    cases z2
    simp only [List.getElem_toArray]
    rw [q1, q2]
    have := dayEq (A := A.in1) o1 o2 (by have := Around.in1_units A; omega)
    simpa using this
  · have : (List.range vs.toArray.size).all (fun _ => true) = true := by simp
    rw [this]
    exact h
theorem addL (F : Loc H L s.heap m) (ha : s.heap.IsList a vs.toArray) (hb : s.heap.IsList b ws.toArray) (hsz : vs.length + ws.length ≤ sizeLine)
    (h : ∀ h' c, Loc H L h' m → s.heap.StaysIn h' → s.heap.get? c = none → h'.get? c = some { cls := .type "list", data := .seq (vs ++ ws).toArray } → Q (.ref c) { s with heap := h' }) :
    wpAny (model prog w) A (binaryOp .Add (.ref a) (.ref b)) Q E s := by
  obtain ⟨⟨cls, dd, data, sl⟩, ho, hc, n, hd⟩ := id ha
  obtain ⟨⟨cls2, dd2, data2, sl2⟩, ho2, hc2, n2, hd2⟩ := id hb
  simp only at hc hd hc2 hd2
  subst hc hd hc2 hd2
  have e : vs.toArray ++ ws.toArray = (vs ++ ws).toArray := by simp
  refine concat_meets ⟨_, ho, rfl⟩ ⟨_, ho2, rfl⟩ noFill_list_add seq_list_add PySem.F.slot_list_add PySem.F.entry_list_add (PySem.F.args_list_add_2 _ _) (list_addW a b vs.toArray ws.toArray n n2 dd dd2 sl sl2 (by simpa using hsz)) ⟨ho, ho2, ?_⟩
  rw [e]
  exact h _ _ (F.push _) (fun _ _ e => Heap.get?_push_of_some _ e) (Heap.get?_none_of_le (Nat.le_refl _)) (Heap.get?_push_size _ rfl)
end
end Mine
end
section
open PySem PySem.W PyProof.Rows PySem.Calls
set_option linter.unusedVariables false
namespace Mine
set_option maxRecDepth 100000
set_option maxHeartbeats 4000000
local macro_rules | `(tactic| walk_at "eval Name") => `(tactic| (with_unfolding_all refine' ldL ?F ?v ?_ ?k ?l ?d; (case F => assumption); (case k => rfl); (case l => rfl); (case d => rfl); (case v => first | assumption | rfl)))
local macro_rules | `(tactic| walk_at "eval Name") => `(tactic| (with_unfolding_all refine' ldG ?T ?F ?e ?_ ?k ?g ?x ?d; (case T => assumption); (case F => assumption); (case k => rfl); (case g => rfl); (case x => rfl); (case d => rfl); (case e => rfl)))
local macro_rules | `(tactic| walk_at "eval Name") => `(tactic| (with_unfolding_all refine' ldB ?T ?F ?e ?v ?n ?_ ?k ?g ?b ?x ?d; (case T => assumption); (case F => assumption); (case k => rfl); (case g => rfl); (case b => rfl); (case x => rfl); (case d => rfl); (case e => rfl); (case v => boot_fast); (case n => decide)))
local macro_rules | `(tactic| walk_at "storeName") => `(tactic| (with_unfolding_all refine' stL ?F ?_ ?k ?l; (case F => assumption); (case k => rfl); (case l => rfl); intro h' F'))
local macro_rules | `(tactic| walk_at "callWith ref") => `(tactic| (with_unfolding_all refine' callWith_K (K := KK _) ?X ?k ?_; (case X => exact (Txt.k (by assumption))); (case k => rfl)))
local macro_rules | `(tactic| walk_at "callWith ref") => `(tactic| (with_unfolding_all refine' callWith_K0 (K := KK _) ?X ?k ?_; (case X => exact (Txt.keeps (by assumption) (Loc.st (by assumption))).k); (case k => rfl)))
local macro_rules | `(tactic| walk_at "And") => `(tactic| (refine ⟨(Txt.keeps (by assumption) (Loc.st (by assumption))).k, ?_⟩))
local macro_rules | `(tactic| walk_at "assign Tuple") => `(tactic| (refine' unpackL ?F ?hh ?ht ?hc ?hd ?hn ?hs ?_; (case F => assumption); (case hh => assumption); (case ht => assumption); (case hc => rfl); (case hd => rfl); (case hn => rfl); (case hs => rfl); intro h' F' k'))
local macro_rules | `(tactic| walk_at "tree") => `(tactic| first | (with_reducible show wpAny _ _ _ _ _ _) | (with_reducible show (if _ then _ else _)) | (with_reducible show Frag.In _ _ ∧ _))
local macro_rules | `(tactic| walk_at "mw") => `(tactic| repeat' (first | (walk_at "tree"; walk1) | (dsimp only; walk_at "tree"; walk1)))
local macro_rules | `(tactic| walk_at "newTuple") => `(tactic| (refine newTupleL (by assumption) (fun h' a' F' ka na Na oa => ?_)))
local macro_rules | `(tactic| walk_at "exec Assign") => `(tactic| (with_reducible refine plainObj_wpAny_Assign_Attribute ?_ ?_; rotate_left; with_unfolding_all rfl))
/-- not the day 13 Ajaw -/
noncomputable def notLast (h : Heap) (v : Value) : Bool := match dayOf h v with
  | some (n, x) => !(n == 13 && x == Str.ofString "Ajaw")
  | none => true
def ntl (d : Int × Nat) : Bool := !(d.1 == 13 && d.2 == 19)
theorem paired_eq {l₁ l₂ : List Value} (h : Paired (fun v y => y = v) l₁ l₂) : l₂ = l₁ := by
  induction h with
  | nil => rfl
  | cons e _ ih => rw [e, ih]
section
variable {prog : Program} {w : World} {A : Around} {E : Value → Shared → Prop} {s : Shared} {mg mb : Str → Option Value} {R : Result → Shared → Prop} {a : Addr} {vs : List Value} {ds : List (Int × Nat)} {n : Nat}
theorem but_last_spec (T : Txt w mg mb s.heap) (hh : A.handled = none) (hroom : A.depth + 4 < recursionLimit) (hU : A.units + 30 < cLine) (ha : s.heap.IsList a vs.toArray) (hd : DayL s.heap vs ds) (hp : Pls ds) (hsz : vs.length ≤ sizeLine)
    (h : ∀ h' b vs' tk', s.heap.StaysIn h' → s.heap.get? b = none → DayL h' vs' (ds.filter ntl) → h'.IsList b vs'.toArray → R (.ok (.ret (.ref b))) { s with heap := h', toks := tk' }) :
    codeAny (model prog w) A (.call (.ref 131) ⟨[.ref a], []⟩) R s := by
  refine enterP (binds := [(Str.ofString "days", .ref a)]) T (by omega) rfl rfl rfl rfl rfl (by decide) rfl rfl rfl rfl fun h₀ F => ?_
  try dsimp only
  walk_at "mw"
  have ha₀ : h₀.IsList a vs.toArray := isListKeeps ha F.st
  refine iterListL F ha₀ fun h₁ I F₁ k₁ nI hI => ?_
  have aI : a ≠ I := by obtain ⟨o, ho, _⟩ := ha₀; exact ne_of_get ho nI
  have hsz' : vs.toArray.size ≤ sizeLine := by rw [List.size_toArray]; exact hsz
  have upA : ∀ b o, s.heap.get? b = some o → h₁.get? b = some o := fun b o e => F₁.st _ _ e
  have upI : ∀ b o, s.heap.get? b = some o → b ≠ I := fun b o e => ne_of_get (F.st _ _ e) nI
  refine ⟨notLast s.heap, fun v y => y = v, I, _, _, _, _, _, rfl, Walks.list (by exact hh) I a aI vs.toArray, hsz', ⟨⟨_, hI, rfl, rfl⟩, isListKeeps ha₀ k₁⟩, ?_, ⟨fun C i v s₂ m₂ E' hv ns₂ hm₂ k₂ _ => ?_, fun C i v s₂ m₂ E' hv pv ns₂ hm₂ k₂ _ => ?_⟩, fun D h' tk ys ws nD hl _ hlen hP hF k' => ?_⟩
  · intro b hb
    simp only [List.mem_cons, List.not_mem_nil, or_false] at hb
    rcases hb with rfl | rfl
    · exact Heap.lt_size hI
    · obtain ⟨o, ho, _⟩ := isListKeeps ha₀ k₁
      exact Heap.lt_size ho
  · refine wpAny_tests_one ?_
    have F₂ : Loc (s₂.heap.hide C) C s₂.heap m₂ := ⟨ns₂, fun _ _ e => Heap.of_hide e, Heap.hide_self ..⟩
    clear F F₁
    walk_at "mw"
    rename_i h₃ b₃ F₃ k₃ n₃ N₃ o₃
    obtain ⟨a1, d, t1, u1, rfl, hd1, o1⟩ := hd.at i v (by rw [← List.getElem?_toArray]; exact hv)
    have e1 : h₃.get? a1 = some (dayObj d.1 (nmS d.2) t1 u1) := k₃ _ _ (k₂ _ _ (by simpa using upI _ _ o1) (upA _ _ o1))
    refine dayNe e1 o₃ (by simp only [units_deeper]; omega) prog w _ _ ?_
    refine wpAny_truthy_bool ?_
    refine ⟨?_, ⟨_, _, rfl, k₃⟩⟩
    unfold notLast
    rw [dayOf_is o1]
  · have F₂ : Loc (s₂.heap.hide C) C s₂.heap m₂ := ⟨ns₂, fun _ _ e => Heap.of_hide e, Heap.hide_self ..⟩
    clear F F₁
    walk_at "mw"
    exact ⟨rfl, ⟨_, _, rfl, fun _ _ e => e⟩⟩
  · have hw : ws = vs := by
      refine List.ext_getElem? fun j => ?_
      cases e : ws[j]? with
      | some v => exact ((List.getElem?_toArray ..).symm.trans (hP j v e)).symm ▸ rfl
      | none =>
        have := List.getElem?_eq_none_iff.mp e
        rw [List.size_toArray] at hlen
        exact (List.getElem?_eq_none (by omega)).symm
    subst hw
    have e := paired_eq hF
    have kk : s.heap.StaysIn h' := fun b o q => k' _ _ (by simpa using upI _ _ q) (upA _ _ q)
    dsimp only
    refine h h' D ys.toList _ kk ?_ ?_ (by rw [Array.toArray_toList]; exact hl)
    · cases q : s.heap.get? D with
      | none => rfl
      | some o => have := upA _ _ q; rw [show h₁.get? D = none from nD] at this; cases this
    · rw [e]
      refine (hd.filter (q := ntl) (fun a1 n x t u ho hx => ?_) hp).keeps kk
      unfold notLast ntl
      rw [dayOf_is ho]
      dsimp only
      rw [← ajaw, nmS_inj x hx 19 (by decide)]
end
end Mine
end
section
open PySem PySem.W PyProof.Rows PySem.Calls
set_option linter.unusedVariables false
namespace Mine
set_option maxRecDepth 100000
set_option maxHeartbeats 4000000
local macro_rules | `(tactic| walk_at "eval Name") => `(tactic| (with_unfolding_all refine' ldL ?F ?v ?_ ?k ?l ?d; (case F => assumption); (case k => rfl); (case l => rfl); (case d => rfl); (case v => first | assumption | rfl)))
local macro_rules | `(tactic| walk_at "eval Name") => `(tactic| (with_unfolding_all refine' ldG ?T ?F ?e ?_ ?k ?g ?x ?d; (case T => assumption); (case F => assumption); (case k => rfl); (case g => rfl); (case x => rfl); (case d => rfl); (case e => rfl)))
local macro_rules | `(tactic| walk_at "eval Name") => `(tactic| (with_unfolding_all refine' ldB ?T ?F ?e ?v ?n ?_ ?k ?g ?b ?x ?d; (case T => assumption); (case F => assumption); (case k => rfl); (case g => rfl); (case b => rfl); (case x => rfl); (case d => rfl); (case e => rfl); (case v => boot_fast); (case n => decide)))
local macro_rules | `(tactic| walk_at "storeName") => `(tactic| (with_unfolding_all refine' stL ?F ?_ ?k ?l; (case F => assumption); (case k => rfl); (case l => rfl); intro h' F'))
local macro_rules | `(tactic| walk_at "callWith ref") => `(tactic| (with_unfolding_all refine' callWith_K (K := KK _) ?X ?k ?_; (case X => exact (Txt.k (by assumption))); (case k => rfl)))
local macro_rules | `(tactic| walk_at "callWith ref") => `(tactic| (with_unfolding_all refine' callWith_K0 (K := KK _) ?X ?k ?_; (case X => exact (Txt.keeps (by assumption) (Loc.st (by assumption))).k); (case k => rfl)))
local macro_rules | `(tactic| walk_at "And") => `(tactic| (refine ⟨(Txt.keeps (by assumption) (Loc.st (by assumption))).k, ?_⟩))
local macro_rules | `(tactic| walk_at "assign Tuple") => `(tactic| (refine' unpackL ?F ?hh ?ht ?hc ?hd ?hn ?hs ?_; (case F => assumption); (case hh => assumption); (case ht => assumption); (case hc => rfl); (case hd => rfl); (case hn => rfl); (case hs => rfl); intro h' F' k'))
local macro_rules | `(tactic| walk_at "tree") => `(tactic| first | (with_reducible show wpAny _ _ _ _ _ _) | (with_reducible show (if _ then _ else _)) | (with_reducible show Frag.In _ _ ∧ _))
local macro_rules | `(tactic| walk_at "mw") => `(tactic| repeat' (first | (walk_at "tree"; walk1) | (dsimp only; walk_at "tree"; walk1)))
local macro_rules | `(tactic| walk_at "newTuple") => `(tactic| (refine newTupleL (by assumption) (fun h' a' F' ka na Na oa => ?_)))
local macro_rules | `(tactic| walk_at "exec Assign") => `(tactic| (with_reducible refine plainObj_wpAny_Assign_Attribute ?_ ?_; rotate_left; with_unfolding_all rfl))
section
variable {prog : Program} {w : World} {A : Around} {E : Value → Shared → Prop} {s : Shared} {env : Env} {H : Heap} {m : Str → Option Value} {x : Str} {v : Value}
theorem stK {Q : Unit → Shared → Prop} (F : Loc H env.locals s.heap m)
    (h : ∀ h', Loc H env.locals h' (fun y => if y = x then some v else m y) → (∀ b o, b ≠ env.locals → s.heap.get? b = some o → h'.get? b = some o) → Q () { s with heap := h', toks := s.toks + 1 })
    (hk : env.scope.kind = .function) (hl : env.kindOf x = some .local) : wpAny (model prog w) A (storeName env x v) Q E s :=
  wpAny_storeName_local hl F.ns (fun h' hn hs => h h' ⟨hn, fun b o e => (hs.2 b (fun q => by rw [q, F.nl] at e; cases e)).trans (F.st b o e), F.nl⟩ fun b o q e => (hs.2 b q).trans e)
    (by rw [hk]; rfl)
end
theorem Loc.ne' {H h : Heap} {L a : Addr} {m : Str → Option Value} {vs : Array Value} {n : Nat} {c : Value} {d : Option Addr} {sl : Array (Option Value)} (F : Loc H L h m) (e : h.get? a = some ⟨c, d, .seq vs n, sl⟩) : a ≠ L := fun q => by
  obtain ⟨o, _, _, ho, hd, _⟩ := F.ns
  rw [q, ho] at e; cases e; cases hd
local macro_rules | `(tactic| walk_at "storeName") => `(tactic| (with_unfolding_all refine' stK ?F ?_ ?k ?l; (case F => assumption); (case k => rfl); (case l => rfl); intro h' F' k'))
section
variable {prog : Program} {w : World} {A : Around} {E : Value → Shared → Prop} {s : Shared} {mg mb : Str → Option Value} {fd : FuncData} {body : List Stmt} {B : Heap} {L : Addr} {m : Str → Option Value} {S : Addr} {vs : List Value} {ns : List Int}
/-- the law's text -/
def IsLawFd (w : World) (fd : FuncData) (body : List Stmt) : Prop := (∃ o, (KK w).lookup 152 = some o ∧ o.data = .func fd) ∧ fd.body = .stmts body
theorem law_a {Q : Flow → Shared → Prop} (hg : IsLawFd w fd body) (T : Txt w mg mb B) (hB : B.StaysIn s.heap) (hh : A.handled = none) (hroom : A.depth + 9 < recursionLimit)
    (ns0 : s.heap.Ns L m) (hBL : B.get? L = none) (hS : m (Str.ofString "script") = some (.ref S)) (hl : s.heap.IsList S vs.toArray) (hI : IntsAre vs ns) (hn : ns.length ≤ 63)
    (h : ∀ h' m' tk st t1 t2 t3 t4 t5, (∀ b o, b ≠ L → s.heap.get? b = some o → h'.get? b = some o) → h'.Ns L m' → m' (Str.ofString "a") = some (.int (ns.getD 0 0) t1) → m' (Str.ofString "e") = some (.int (ns.getD 3 0) t2) →
      m' (Str.ofString "number") = some (.int (1 + ns.getD 0 0 % 13) t3) → m' (Str.ofString "name") = some (.str (nmS (ns.getD 1 0 % 20).toNat) t4) → m' (Str.ofString "mode") = some (.int (ns.getD 2 0 % 5) t5) → m' (Str.ofString "start") = some (.ref st) → st ≠ L →
      (∃ t6 t7, h'.get? st = some (dayObj (startN (ns.getD 2 0 % 5) (1 + ns.getD 0 0 % 13)) (nmS (startP (ns.getD 2 0 % 5) (ns.getD 1 0 % 20).toNat)) t6 t7)) → Q .next { s with heap := h', toks := tk }) :
    wpAny (model prog w) A (execs (body.take 6) (callEnv fd L 152)) Q E s := by
  obtain ⟨⟨o, ho, hd⟩, hb⟩ := hg
  have e := (rfl : (KK w).lookup 152 = some _)
  rw [e] at ho
  cases ho
  cases hd
  cases hb
  simp only [List.take_succ_cons, List.take_zero]
  have F : Loc (s.heap.hide L) L s.heap m := ⟨ns0, fun _ _ e => Heap.of_hide e, Heap.hide_self ..⟩
  have T₀ : Txt w mg mb (s.heap.hide L) := T.keeps (StaysIn.hide hB _ hBL)
  walk_at "mw"
  have hl₀ : (s.heap.hide L).IsList S vs.toArray := by
    obtain ⟨o, ho, hc, n, hd⟩ := hl
    refine ⟨o, F.inn ho (fun q => ?_), hc, n, hd⟩
    obtain ⟨oL, _, _, hoL, hdL, _⟩ := ns0
    rw [q, hoL] at ho; cases ho; rw [hdL] at hd; cases hd
  refine wpAny_call (cell_spec (k := 0) (T₀.keeps F.st) hh (by omega) (isListKeeps hl₀ F.st) hI hn (by decide) fun h₁ t₁ tk₁ k₁ => ?_)
  have F₁ := F.keeps k₁
  clear F
  dsimp only
  walk_at "mw"
  refine wpAny_call (cell_spec (k := 1) (T₀.keeps F₁.st) hh (by omega) (isListKeeps hl₀ F₁.st) hI hn (by decide) fun h₂ t₂ tk₂ k₂ => ?_)
  have F₂ := F₁.keeps k₂
  clear F₁
  dsimp only
  walk_at "mw"
  refine wpAny_call (cell_spec (k := 2) (T₀.keeps F₂.st) hh (by omega) (isListKeeps hl₀ F₂.st) hI hn (by decide) fun h₃ t₃ tk₃ k₃ => ?_)
  have F₃ := F₂.keeps k₃
  clear F₂
  dsimp only
  walk_at "mw"
  refine wpAny_call (cell_spec (k := 3) (T₀.keeps F₃.st) hh (by omega) (isListKeeps hl₀ F₃.st) hI hn (by decide) fun h₄ t₄ tk₄ k₄ => ?_)
  have F₄ := F₃.keeps k₄
  clear F₃
  dsimp only
  walk_at "mw"
  rename_i h₅ F₅ k₅'
  clear F₄
  refine wpAny_call (names_spec (T₀.keeps F₅.st) (by omega) fun h₆ N l tk₆ k₆ nN hN oN => ?_)
  have F₆ := F₅.keeps k₆
  clear F₅ hl₀
  dsimp only
  walk_at "mw"
  have fm : ∀ (x : Int) (k : Int), 0 ≤ k → x.fmod k = x % k := fun x k hk => Int.fmod_eq_emod_of_nonneg x hk
  have f13 := fun x => fm x 13 (by decide)
  have f5 := fun x => fm x 5 (by decide)
  have up : ∀ h', (s.heap.hide L).StaysIn h' → ∀ b o, b ≠ L → s.heap.get? b = some o → h'.get? b = some o := fun h' k b o q e => k _ _ ((Heap.hide_ne _ q).trans e)
  rw [fm _ 20 (by decide)]
  refine names_item oN hN (by omega) (by omega) fun u' => ?_
  walk_at "mw"
  · rename_i hc h₇ a₂ F₇ k₇ n₇ N₇ o₇ h₈ F₈ k₈
    rw [f5] at hc
    refine h h₈ _ _ a₂ _ _ _ _ _ (up _ F₈.st) F₈.ns rfl rfl (by rw [← f13]; with_unfolding_all rfl) (by with_unfolding_all rfl) (by rw [← f5]; with_unfolding_all rfl) (by with_unfolding_all rfl) (F₇.ne' o₇) ⟨_, _, (k₈ _ _ (F₇.ne' o₇) o₇).trans (by rw [hc]; rfl)⟩
  · rename_i hc h₇ a₂ F₇ k₇ n₇ N₇ o₇ h₈ F₈ k₈
    rw [f5] at hc
    refine h h₈ _ _ a₂ _ _ _ _ _ (up _ F₈.st) F₈.ns rfl rfl (by rw [← f13]; with_unfolding_all rfl) (by with_unfolding_all rfl) (by rw [← f5]; with_unfolding_all rfl) (by with_unfolding_all rfl) (F₇.ne' o₇) ⟨_, _, (k₈ _ _ (F₇.ne' o₇) o₇).trans (by rw [hc, f13]; rfl)⟩
  · rename_i hc h₇ a₂ F₇ k₇ n₇ N₇ o₇ h₈ F₈ k₈
    rw [f5] at hc
    have e1 : startN (ns.getD 2 0 % 5) (1 + ns.getD 0 0 % 13) = 13 := by unfold startN; rw [if_neg (by omega)]
    have e2 : startP (ns.getD 2 0 % 5) (ns.getD 1 0 % 20).toNat = 19 := by unfold startP; rw [if_neg (by omega)]
    refine h h₈ _ _ a₂ _ _ _ _ _ (up _ F₈.st) F₈.ns rfl rfl (by rw [← f13]; with_unfolding_all rfl) (by with_unfolding_all rfl) (by rw [← f5]; with_unfolding_all rfl) (by with_unfolding_all rfl) (F₇.ne' o₇) ⟨_, _, (k₈ _ _ (F₇.ne' o₇) o₇).trans (by rw [e1, e2]; rfl)⟩
  · rename_i h₇ a₂ F₇ k₇ n₇ N₇ o₇ h₈ F₈ k₈ c1 c2 c3
    rw [f5] at c1 c2 c3
    have e0 : ns.getD 2 0 % 5 = 0 := by omega
    refine h h₈ _ _ a₂ _ _ _ _ _ (up _ F₈.st) F₈.ns rfl rfl (by rw [← f13]; with_unfolding_all rfl) (by with_unfolding_all rfl) (by rw [← f5]; with_unfolding_all rfl) (by with_unfolding_all rfl) (F₇.ne' o₇) ⟨_, _, (k₈ _ _ (F₇.ne' o₇) o₇).trans (by rw [e0, f13]; rfl)⟩
end
end Mine
end
section
open PySem PySem.W PyProof.Rows PySem.Calls
set_option linter.unusedVariables false
namespace Mine
set_option maxRecDepth 100000
set_option maxHeartbeats 4000000
local macro_rules | `(tactic| walk_at "eval Name") => `(tactic| (with_unfolding_all refine' ldL ?F ?v ?_ ?k ?l ?d; (case F => assumption); (case k => rfl); (case l => rfl); (case d => rfl); (case v => first | assumption | rfl)))
local macro_rules | `(tactic| walk_at "eval Name") => `(tactic| (with_unfolding_all refine' ldG ?T ?F ?e ?_ ?k ?g ?x ?d; (case T => assumption); (case F => assumption); (case k => rfl); (case g => rfl); (case x => rfl); (case d => rfl); (case e => rfl)))
local macro_rules | `(tactic| walk_at "eval Name") => `(tactic| (with_unfolding_all refine' ldB ?T ?F ?e ?v ?n ?_ ?k ?g ?b ?x ?d; (case T => assumption); (case F => assumption); (case k => rfl); (case g => rfl); (case b => rfl); (case x => rfl); (case d => rfl); (case e => rfl); (case v => boot_fast); (case n => decide)))
local macro_rules | `(tactic| walk_at "storeName") => `(tactic| (with_unfolding_all refine' stL ?F ?_ ?k ?l; (case F => assumption); (case k => rfl); (case l => rfl); intro h' F'))
local macro_rules | `(tactic| walk_at "callWith ref") => `(tactic| (with_unfolding_all refine' callWith_K (K := KK _) ?X ?k ?_; (case X => exact (Txt.k (by assumption))); (case k => rfl)))
local macro_rules | `(tactic| walk_at "callWith ref") => `(tactic| (with_unfolding_all refine' callWith_K0 (K := KK _) ?X ?k ?_; (case X => exact (Txt.keeps (by assumption) (Loc.st (by assumption))).k); (case k => rfl)))
local macro_rules | `(tactic| walk_at "And") => `(tactic| (refine ⟨(Txt.keeps (by assumption) (Loc.st (by assumption))).k, ?_⟩))
local macro_rules | `(tactic| walk_at "assign Tuple") => `(tactic| (refine' unpackL ?F ?hh ?ht ?hc ?hd ?hn ?hs ?_; (case F => assumption); (case hh => assumption); (case ht => assumption); (case hc => rfl); (case hd => rfl); (case hn => rfl); (case hs => rfl); intro h' F' k'))
local macro_rules | `(tactic| walk_at "tree") => `(tactic| first | (with_reducible show wpAny _ _ _ _ _ _) | (with_reducible show (if _ then _ else _)) | (with_reducible show Frag.In _ _ ∧ _))
local macro_rules | `(tactic| walk_at "mw") => `(tactic| repeat' (first | (walk_at "tree"; walk1) | (dsimp only; walk_at "tree"; walk1)))
local macro_rules | `(tactic| walk_at "newTuple") => `(tactic| (refine newTupleL (by assumption) (fun h' a' F' ka na Na oa => ?_)))
local macro_rules | `(tactic| walk_at "exec Assign") => `(tactic| (with_reducible refine plainObj_wpAny_Assign_Attribute ?_ ?_; rotate_left; with_unfolding_all rfl))
local macro_rules | `(tactic| walk_at "storeName") => `(tactic| (with_unfolding_all refine' stK ?F ?_ ?k ?l; (case F => assumption); (case k => rfl); (case l => rfl); intro h' F' k'))
theorem round_at {i : Nat} (h : i < 260) : (round 260)[i]? = some (dayAt i) := by
  unfold round
  rw [List.getElem?_map, List.getElem?_range h]; rfl
theorem round_len : (round 260).length = 260 := by unfold round; simp
theorem round_pls : Pls (round 260) := fun d hd => by
  unfold round at hd
  obtain ⟨i, _, rfl⟩ := List.mem_map.mp hd
  exact Nat.mod_lt _ (by decide)
theorem round_cnt {N : Int} {p : Nat} (h1 : 1 ≤ N) (h2 : N ≤ 13) (hp : p < 20) : dayAt (cnt N p - 1).toNat = (N, p) := by
  obtain ⟨a, b, c, d⟩ := cnt_ok h1 h2 hp
  unfold nu at c
  unfold pl at d
  unfold dayAt
  refine Prod.ext ?_ ?_
  · show (((cnt N p - 1).toNat % 13 : Nat) : Int) + 1 = N
    omega
  · show (cnt N p - 1).toNat % 20 = p
    omega
theorem round_first {N : Int} {p i : Nat} (h1 : 1 ≤ N) (h2 : N ≤ 13) (hp : p < 20) (hi : (i : Int) < cnt N p - 1) : dayAt i ≠ (N, p) := fun e => by
  obtain ⟨a, b, c, d⟩ := cnt_ok h1 h2 hp
  unfold nu at c
  unfold pl at d
  unfold dayAt at e
  injection e with e1 e2
  omega
section
variable {prog : Program} {w : World} {A : Around} {E : Value → Shared → Prop} {s : Shared} {mg mb : Str → Option Value} {a b : Addr} {vs : List Value} {N : Int} {p c : Nat} {t u : Tok}
/-- the day that is sought -/
noncomputable def isDay (h : Heap) (n : Int) (x : Str) (v : Value) : Bool := match dayOf h v with
  | some (n', x') => n' == n && x' == x
  | none => false
theorem indexDays {Q : Value → Shared → Prop} (ho : s.heap.get? a = some { cls := .type "list", data := .seq vs.toArray c }) (hd : DayL s.heap vs (round 260)) (hb : s.heap.get? b = some (dayObj N (nmS p) t u)) (h1 : 1 ≤ N) (h2 : N ≤ 13) (hp : p < 20) (hU : A.units + 9 < cLine)
    (h : ∀ tk, Q (.int (cnt N p - 1) tk) { s with toks := s.toks + 1 }) : wpAny (model prog w) A (call (.builtin "list.index") [.ref a, .ref b]) Q E s := by
  obtain ⟨c1, c2, _, _⟩ := cnt_ok h1 h2 hp
  have hl : vs.length = 260 := hd.length.trans round_len
  have hj : (cnt N p - 1).toNat < vs.toArray.size := by rw [List.size_toArray]; omega
  have at' : ∀ (i : Nat) (hi : i < vs.toArray.size), isDay s.heap N (nmS p) vs.toArray[i] = decide (dayAt i = (N, p)) := fun i hi => by
    have hi' : i < vs.length := by simpa using hi
    obtain ⟨a1, d, t1, u1, q, z, o⟩ := hd.at i vs[i] (List.getElem?_eq_getElem hi')
    rw [round_at (by omega)] at z
    cases z
    simp only [List.getElem_toArray]
    rw [q]
    unfold isDay
    rw [dayOf_is o]
    dsimp only
    rw [nmS_inj (dayAt i).2 (Nat.mod_lt _ (by decide)) p hp]
    by_cases e : dayAt i = (N, p)
    · rw [e]; simp
    · rw [decide_eq_false e, Bool.and_eq_false_iff]
      by_cases e1 : (dayAt i).1 = N
      · refine .inr ?_
        by_cases e2 : (dayAt i).2 = p
        · exact absurd (Prod.ext e1 e2) e
        · simpa using e2
      · exact .inl (by simpa using e1)
  refine call_meets PySem.F.slot_list_index ⟨_, ho, rfl⟩ PySem.F.entry_list_index (PySem.F.args_list_index_2 _ _)
    (SeqAt.list_indexAt a vs.toArray c none #[] (.ref b) (isDay s.heap N (nmS p)) (cnt N p - 1).toNat hj (by omega) ?_ ?_) ⟨ho, fun y hy => ?_, ?_⟩
  · rw [at' _ hj, round_cnt h1 h2 hp]; simp
  · intro m hlt hm
    rw [at' _ hlt, decide_eq_false (round_first h1 h2 hp (by omega))]
  · obtain ⟨i, hi, rfl⟩ := Array.mem_iff_getElem.mp hy
    have hi' : i < vs.length := by simpa using hi
    obtain ⟨a1, d, t1, u1, q, z, o⟩ := hd.at i vs[i] (List.getElem?_eq_getElem hi')
    simp only [List.getElem_toArray]
    rw [q]
    unfold isDay
    rw [dayOf_is o]
    exact dayEq o hb (by have := Around.in1_units A; have := Around.in1_units A.in1; omega)
  · have := h s.toks
    rw [show cnt N p - 1 = (((cnt N p - 1).toNat : Nat) : Int) by omega] at this
    exact this
end
end Mine
end
section
open PySem PySem.W PyProof.Rows PySem.Calls
set_option linter.unusedVariables false
namespace Mine
set_option maxRecDepth 100000
set_option maxHeartbeats 4000000
local macro_rules | `(tactic| walk_at "eval Name") => `(tactic| (with_unfolding_all refine' ldL ?F ?v ?_ ?k ?l ?d; (case F => assumption); (case k => rfl); (case l => rfl); (case d => rfl); (case v => first | assumption | rfl)))
local macro_rules | `(tactic| walk_at "eval Name") => `(tactic| (with_unfolding_all refine' ldG ?T ?F ?e ?_ ?k ?g ?x ?d; (case T => assumption); (case F => assumption); (case k => rfl); (case g => rfl); (case x => rfl); (case d => rfl); (case e => rfl)))
local macro_rules | `(tactic| walk_at "eval Name") => `(tactic| (with_unfolding_all refine' ldB ?T ?F ?e ?v ?n ?_ ?k ?g ?b ?x ?d; (case T => assumption); (case F => assumption); (case k => rfl); (case g => rfl); (case b => rfl); (case x => rfl); (case d => rfl); (case e => rfl); (case v => boot_fast); (case n => decide)))
local macro_rules | `(tactic| walk_at "storeName") => `(tactic| (with_unfolding_all refine' stL ?F ?_ ?k ?l; (case F => assumption); (case k => rfl); (case l => rfl); intro h' F'))
local macro_rules | `(tactic| walk_at "callWith ref") => `(tactic| (with_unfolding_all refine' callWith_K (K := KK _) ?X ?k ?_; (case X => exact (Txt.k (by assumption))); (case k => rfl)))
local macro_rules | `(tactic| walk_at "callWith ref") => `(tactic| (with_unfolding_all refine' callWith_K0 (K := KK _) ?X ?k ?_; (case X => exact (Txt.keeps (by assumption) (Loc.st (by assumption))).k); (case k => rfl)))
local macro_rules | `(tactic| walk_at "And") => `(tactic| (refine ⟨(Txt.keeps (by assumption) (Loc.st (by assumption))).k, ?_⟩))
local macro_rules | `(tactic| walk_at "assign Tuple") => `(tactic| (refine' unpackL ?F ?hh ?ht ?hc ?hd ?hn ?hs ?_; (case F => assumption); (case hh => assumption); (case ht => assumption); (case hc => rfl); (case hd => rfl); (case hn => rfl); (case hs => rfl); intro h' F' k'))
local macro_rules | `(tactic| walk_at "tree") => `(tactic| first | (with_reducible show wpAny _ _ _ _ _ _) | (with_reducible show (if _ then _ else _)) | (with_reducible show Frag.In _ _ ∧ _))
local macro_rules | `(tactic| walk_at "mw") => `(tactic| repeat' (first | (walk_at "tree"; walk1) | (dsimp only; walk_at "tree"; walk1)))
local macro_rules | `(tactic| walk_at "newTuple") => `(tactic| (refine newTupleL (by assumption) (fun h' a' F' ka na Na oa => ?_)))
local macro_rules | `(tactic| walk_at "exec Assign") => `(tactic| (with_reducible refine plainObj_wpAny_Assign_Attribute ?_ ?_; rotate_left; with_unfolding_all rfl))
local macro_rules | `(tactic| walk_at "storeName") => `(tactic| (with_unfolding_all refine' stK ?F ?_ ?k ?l; (case F => assumption); (case k => rfl); (case l => rfl); intro h' F' k'))
section
variable {prog : Program} {w : World} {A : Around} {E : Value → Shared → Prop} {s : Shared} {H : Heap} {L a : Addr} {m : Str → Option Value} {vs : List Value} {Q : Value → Shared → Prop} {value slice : Expr}
theorem sliceL {vl vu : Value} {lo hi : Option Int} {h : Heap} (F : Loc H L h m) (ha : h.IsList a vs.toArray) (pl : IsPart vl lo) (pu : IsPart vu hi) (hsz : vs.length ≤ sizeLine)
    (hq : ∀ h' c, Loc H L h' m → h.StaysIn h' → h.get? c = none → h'.get? c = some { cls := .type "list", data := .seq (slicePick vs.toArray lo hi none) } → Q (.ref c) { s with heap := h' })
    (hs : subscripted slice false (.ref a) (.ref h.objs.size) = operate [.ref h.objs.size, .ref a] (getItem (.ref a) (.ref h.objs.size)) := by with_unfolding_all rfl)
    (ht : ∀ r, letTemporaryGo value (.ref a) r = pure () := by intro _; with_unfolding_all rfl) :
    wpAny (model prog w) A (subscriptTail value slice (.ref a) (.ref h.objs.size)) Q E { s with heap := h.push { cls := .type "slice", data := .fields #[vl, vu, .none] } } := by
  have ha' : (h.push { cls := .type "slice", data := .fields #[vl, vu, .none] }).IsList a vs.toArray := isListKeeps ha fun _ _ e => Heap.get?_push_of_some _ e
  refine subscriptTail_ops (Heap.IsList.typeIs (s := { s with heap := h.push { cls := .type "slice", data := .fields #[vl, vu, .none] } }) ha') list_getitem_lookup
    (wpAny_getItem_list_slice ha' (Heap.IsSliceOf.new ..) pl pu .none (by simp) ?_ (by rw [List.size_toArray]; exact hsz)) hs ht
  refine hq _ _ ((F.push _).push _) (fun _ _ e => Heap.get?_push_of_some _ (Heap.get?_push_of_some _ e)) ?_ (Heap.get?_push_size _ rfl)
  refine Heap.get?_none_of_le ?_
  show h.objs.size ≤ (h.push _).objs.size
  rw [Heap.size_push]
  exact Nat.le_succ _
theorem sliceFrom {i : Int} {t : Tok} {h : Heap} (F : Loc H L h m) (ha : h.IsList a vs.toArray) (hi : 0 ≤ i) (hsz : vs.length ≤ sizeLine)
    (hq : ∀ h' c, Loc H L h' m → h.StaysIn h' → h.get? c = none → h'.get? c = some { cls := .type "list", data := .seq (vs.drop i.toNat).toArray } → Q (.ref c) { s with heap := h' })
    (hs : subscripted slice false (.ref a) (.ref h.objs.size) = operate [.ref h.objs.size, .ref a] (getItem (.ref a) (.ref h.objs.size)) := by with_unfolding_all rfl)
    (ht : ∀ r, letTemporaryGo value (.ref a) r = pure () := by intro _; with_unfolding_all rfl) :
    wpAny (model prog w) A (subscriptTail value slice (.ref a) (.ref h.objs.size)) Q E { s with heap := h.push { cls := .type "slice", data := .fields #[.int i t, .none, .none] } } :=
  sliceL F ha (.int i t) .none hsz (fun h' c F' k n o => hq h' c F' k n (by
    rw [o, show i = (i.toNat : Int) by omega, slicePick_from']; rfl)) hs ht
theorem sliceUpto {i : Int} {t : Tok} {h : Heap} (F : Loc H L h m) (ha : h.IsList a vs.toArray) (hi : 0 ≤ i) (hsz : vs.length ≤ sizeLine)
    (hq : ∀ h' c, Loc H L h' m → h.StaysIn h' → h.get? c = none → h'.get? c = some { cls := .type "list", data := .seq (vs.take i.toNat).toArray } → Q (.ref c) { s with heap := h' })
    (hs : subscripted slice false (.ref a) (.ref h.objs.size) = operate [.ref h.objs.size, .ref a] (getItem (.ref a) (.ref h.objs.size)) := by with_unfolding_all rfl)
    (ht : ∀ r, letTemporaryGo value (.ref a) r = pure () := by intro _; with_unfolding_all rfl) :
    wpAny (model prog w) A (subscriptTail value slice (.ref a) (.ref h.objs.size)) Q E { s with heap := h.push { cls := .type "slice", data := .fields #[.none, .int i t, .none] } } :=
  sliceL F ha .none (.int i t) hsz (fun h' c F' k n o => hq h' c F' k n (by
    rw [o, show i = (i.toNat : Int) by omega, slicePick_upto']; rfl)) hs ht
end
section
variable {prog : Program} {w : World} {A : Around} {E : Value → Shared → Prop} {s : Shared} {mg mb : Str → Option Value} {fd : FuncData} {body : List Stmt} {B : Heap} {L st : Addr} {m : Str → Option Value} {N : Int} {p : Nat} {t u : Tok}
theorem law_b {Q : Flow → Shared → Prop} (hg : IsLawFd w fd body) (T : Txt w mg mb B) (hB : B.StaysIn s.heap) (hh : A.handled = none) (hroom : A.depth + 12 < recursionLimit) (hU : A.units + 60 < cLine)
    (ns0 : s.heap.Ns L m) (hBL : B.get? L = none) (hS : m (Str.ofString "start") = some (.ref st)) (hst : s.heap.get? st = some (dayObj N (nmS p) t u)) (h1 : 1 ≤ N) (h2 : N ≤ 13) (hp : p < 20)
    (h : ∀ h' m' tk D U vs us t1, (∀ b o, b ≠ L → s.heap.get? b = some o → h'.get? b = some o) → h'.Ns L m' → (∀ x, x ≠ Str.ofString "days" → x ≠ Str.ofString "place" → x ≠ Str.ofString "due" → m' x = m x) →
      m' (Str.ofString "days") = some (.ref D) → m' (Str.ofString "place") = some (.int (cnt N p - 1) t1) → m' (Str.ofString "due") = some (.ref U) → h'.IsList D vs.toArray → DayL h' vs (round 260) → h'.IsList U us.toArray →
      DayL h' us (((round 260).drop (cnt N p - 1).toNat ++ (round 260).take (cnt N p - 1).toNat).filter ntl) → Q .next { s with heap := h', toks := tk }) :
    wpAny (model prog w) A (execs ((body.drop 6).take 3) (callEnv fd L 152)) Q E s := by
  obtain ⟨⟨o, ho, hd⟩, hb⟩ := hg
  have e := (rfl : (KK w).lookup 152 = some _)
  rw [e] at ho
  cases ho
  cases hd
  cases hb
  simp only [List.take_succ_cons, List.take_zero, List.drop_succ_cons, List.drop_zero]
  clear e
  have F : Loc (s.heap.hide L) L s.heap m := ⟨ns0, fun _ _ e => Heap.of_hide e, Heap.hide_self ..⟩
  have T₀ : Txt w mg mb (s.heap.hide L) := T.keeps (StaysIn.hide hB _ hBL)
  have hst₀ : (s.heap.hide L).get? st = some (dayObj N (nmS p) t u) := F.inn hst (F.ne' hst)
  obtain ⟨c1, c2, c3, c4⟩ := cnt_ok h1 h2 hp
  walk_at "mw"
  refine wpAny_call (round_spec (T₀.keeps F.st) hh (by omega) fun h₁ D vs c tk₁ k₁ nD dD oD => ?_)
  have DL : D ≠ L := F.ne nD
  have F₁ := (F.keeps k₁).anew
  have T₁ := T₀.keeps (F.keeps k₁).sub
  have s₁ := (F.keeps k₁).sub
  have oD₁ := (F.keeps k₁).inn oD DL
  clear F
  dsimp only
  walk_at "mw"
  rename_i h₂ F₂ k₂
  have oD₂ := F₂.st _ _ oD₁
  refine getMethod_list_of PySem.F.slot_list_index PySem.F.type_list_index (items := vs.toArray) ⟨_, oD₂, rfl, _, rfl⟩ ⟨_, oD₂, rfl⟩ ?_
  walk_at "mw"
  have d₁ : DayL (h₁.hide L) vs (round 260) := DayL.of (dD.length) fun i v d e1 e2 => by
    obtain ⟨a, d', t', u', q, z, o⟩ := dD.at i v e1
    rw [z] at e2; cases e2
    exact ⟨a, t', u', q, (Heap.hide_ne _ ((F₁.ne' o))).trans o⟩
  refine indexDays oD₂ (d₁.keeps F₂.st) (F₂.st _ _ (s₁ _ _ hst₀)) h1 h2 hp (by omega) fun tp => ?_
  walk_at "mw"
  rename_i h₃ F₃ k₃
  have vl : vs.length = 260 := dD.length.trans round_len
  refine sliceFrom (s := { s with heap := h₃, toks := tk₁ + 1 + 1 + 1 }) F₃ (vs := vs) ⟨_, F₃.st _ _ oD₁, rfl, _, rfl⟩ (by omega) (by rw [vl]; decide) fun h₄ X F₄ k₄ nX oX => ?_
  clear F₃
  walk_at "mw"
  refine sliceUpto (s := { s with heap := h₄, toks := tk₁ + 1 + 1 + 1 }) F₄ (vs := vs) ⟨_, F₄.st _ _ oD₁, rfl, _, rfl⟩ (by omega) (by rw [vl]; decide) fun h₅ Y F₅ k₅ nY oY => ?_
  clear F₄
  walk_at "mw"
  refine addL F₅ (vs := vs.drop (cnt N p - 1).toNat) (ws := vs.take (cnt N p - 1).toNat) ⟨_, k₅ _ _ oX, rfl, _, rfl⟩ ⟨_, oY, rfl, _, rfl⟩ ?_ fun h₆ Z F₆ k₆ nZ oZ => ?_
  · rw [List.length_drop, List.length_take, vl, sizeLine_eq]
    omega
  walk_at "mw"
  have dZ := ((d₁.drop (cnt N p - 1).toNat).append (d₁.take (cnt N p - 1).toNat)).keeps F₆.st
  refine wpAny_call (but_last_spec (ds := (round 260).drop (cnt N p - 1).toNat ++ (round 260).take (cnt N p - 1).toNat) (T₁.keeps F₆.st) hh (by omega) (by omega) ⟨_, oZ, rfl, _, rfl⟩ dZ (fun d hd => ?_) ?_ fun h₇ U us tk₇ k₇ nU dU lU => ?_)
  · rcases List.mem_append.mp hd with q | q
    · exact round_pls d (List.mem_of_mem_drop q)
    · exact round_pls d (List.mem_of_mem_take q)
  · rw [List.length_append, List.length_drop, List.length_take, vl, sizeLine_eq]
    omega
  have F₇ := F₆.keeps k₇
  have UL : U ≠ L := F₆.ne nU
  clear F₆
  dsimp only
  walk_at "mw"
  rename_i h₈ F₈ k₈
  have up : ∀ b o, b ≠ L → s.heap.get? b = some o → h₈.get? b = some o := fun b o q e => F₈.st _ _ ((Heap.hide_ne _ q).trans (k₁ _ _ e))
  have nd : ∀ a n x t u, h₇.get? a = some (dayObj n x t u) → a ≠ L := fun a n x t u e => F₇.ne' e
  refine h h₈ _ _ D U vs us _ up F₈.ns ?_ rfl rfl rfl ⟨_, F₈.st _ _ oD₁, rfl, _, rfl⟩ (d₁.keeps F₈.st) ?_ ?_
  · intro x q1 q2 q3
    show (if x = _ then _ else if x = _ then _ else if x = _ then _ else m x) = m x
    rw [if_neg q3, if_neg q2, if_neg q1]
  · obtain ⟨o, ho, r⟩ := lU
    exact ⟨o, k₈ _ _ UL ho, r⟩
  · refine DayL.of dU.length fun i v d e1 e2 => ?_
    obtain ⟨a, d', t', u', q, z, o⟩ := dU.at i v e1
    rw [z] at e2; cases e2
    exact ⟨a, t', u', q, k₈ _ _ (nd _ _ _ _ _ o) o⟩
end
end Mine
end
section
open PySem PySem.W PyProof.Rows PySem.Calls
set_option linter.unusedVariables false
namespace Mine
set_option maxRecDepth 100000
set_option maxHeartbeats 4000000
local macro_rules | `(tactic| walk_at "eval Name") => `(tactic| (with_unfolding_all refine' ldL ?F ?v ?_ ?k ?l ?d; (case F => assumption); (case k => rfl); (case l => rfl); (case d => rfl); (case v => first | assumption | rfl)))
local macro_rules | `(tactic| walk_at "eval Name") => `(tactic| (with_unfolding_all refine' ldG ?T ?F ?e ?_ ?k ?g ?x ?d; (case T => assumption); (case F => assumption); (case k => rfl); (case g => rfl); (case x => rfl); (case d => rfl); (case e => rfl)))
local macro_rules | `(tactic| walk_at "eval Name") => `(tactic| (with_unfolding_all refine' ldB ?T ?F ?e ?v ?n ?_ ?k ?g ?b ?x ?d; (case T => assumption); (case F => assumption); (case k => rfl); (case g => rfl); (case b => rfl); (case x => rfl); (case d => rfl); (case e => rfl); (case v => boot_fast); (case n => decide)))
local macro_rules | `(tactic| walk_at "storeName") => `(tactic| (with_unfolding_all refine' stL ?F ?_ ?k ?l; (case F => assumption); (case k => rfl); (case l => rfl); intro h' F'))
local macro_rules | `(tactic| walk_at "callWith ref") => `(tactic| (with_unfolding_all refine' callWith_K (K := KK _) ?X ?k ?_; (case X => exact (Txt.k (by assumption))); (case k => rfl)))
local macro_rules | `(tactic| walk_at "callWith ref") => `(tactic| (with_unfolding_all refine' callWith_K0 (K := KK _) ?X ?k ?_; (case X => exact (Txt.keeps (by assumption) (Loc.st (by assumption))).k); (case k => rfl)))
local macro_rules | `(tactic| walk_at "And") => `(tactic| (refine ⟨(Txt.keeps (by assumption) (Loc.st (by assumption))).k, ?_⟩))
local macro_rules | `(tactic| walk_at "assign Tuple") => `(tactic| (refine' unpackL ?F ?hh ?ht ?hc ?hd ?hn ?hs ?_; (case F => assumption); (case hh => assumption); (case ht => assumption); (case hc => rfl); (case hd => rfl); (case hn => rfl); (case hs => rfl); intro h' F' k'))
local macro_rules | `(tactic| walk_at "tree") => `(tactic| first | (with_reducible show wpAny _ _ _ _ _ _) | (with_reducible show (if _ then _ else _)) | (with_reducible show Frag.In _ _ ∧ _))
local macro_rules | `(tactic| walk_at "mw") => `(tactic| repeat' (first | (walk_at "tree"; walk1) | (dsimp only; walk_at "tree"; walk1)))
local macro_rules | `(tactic| walk_at "newTuple") => `(tactic| (refine newTupleL (by assumption) (fun h' a' F' ka na Na oa => ?_)))
local macro_rules | `(tactic| walk_at "exec Assign") => `(tactic| (with_reducible refine plainObj_wpAny_Assign_Attribute ?_ ?_; rotate_left; with_unfolding_all rfl))
/-- the day of a count -/
def day (k : Int) : Int × Nat := (nu k, pl k)
theorem rng_get {a b : Int} {i : Nat} (h : i < (b - a).toNat) : (rng a b)[i]? = some (a + (i : Int)) := by
  unfold rng
  rw [List.getElem?_map, List.getElem?_range h]; rfl
theorem rng_none {a b : Int} {i : Nat} (h : (b - a).toNat ≤ i) : (rng a b)[i]? = none := List.getElem?_eq_none (by rw [lenR]; exact h)
theorem day_at (i : Nat) : dayAt i = day ((i : Int) + 1) := by
  unfold dayAt day nu pl
  refine Prod.ext ?_ ?_
  · show ((i % 13 : Nat) : Int) + 1 = ((i : Int) + 1 - 1) % 13 + 1
    omega
  · show i % 20 = (((i : Int) + 1 - 1) % 20).toNat
    omega
theorem drop_round {k : Nat} (hk : k ≤ 260) : (round 260).drop k = (rng ((k : Int) + 1) 261).map day := by
  refine List.ext_getElem? fun i => ?_
  rw [List.getElem?_drop, List.getElem?_map]
  by_cases h : k + i < 260
  · rw [round_at h, rng_get (by omega), day_at]
    show some _ = some _
    congr 2
    omega
  · rw [rng_none (by omega), List.getElem?_eq_none (by rw [round_len]; omega)]; rfl
theorem take_round {k : Nat} (hk : k ≤ 260) : (round 260).take k = (rng 1 ((k : Int) + 1)).map day := by
  refine List.ext_getElem? fun i => ?_
  rw [List.getElem?_map, List.getElem?_take]
  by_cases h : i < k
  · rw [if_pos h, round_at (by omega), rng_get (by omega), day_at]
    show some _ = some _
    congr 2
    omega
  · rw [if_neg h, rng_none (by omega)]; rfl
theorem rng_snoc {a b : Int} (h : a ≤ b) : rng a (b + 1) = rng a b ++ [b] := by
  unfold rng
  have e : (b + 1 - a).toNat = (b - a).toNat + 1 := by omega
  rw [e, List.range_succ, List.map_append]
  congr 1
  show [a + ((b - a).toNat : Int)] = [b]
  congr 1
  omega
/-- the rotation without the day 13 Ajaw is what the walk tells -/
theorem plain {c : Int} (h1 : 1 ≤ c) (h2 : c ≤ 260) : ((round 260).drop (c - 1).toNat ++ (round 260).take (c - 1).toNat).filter ntl = ((rng c 260 ++ rng 1 c).map day).filter ntl := by
  rw [drop_round (by omega), take_round (by omega), show (((c - 1).toNat : Nat) : Int) + 1 = c by omega, show (261 : Int) = 260 + 1 by rfl, rng_snoc h2]
  simp only [List.map_append, List.filter_append, List.map_cons, List.map_nil]
  have : [day 260].filter ntl = [] := by decide
  rw [this, List.append_nil]
theorem rng_mem {a b k : Int} (h : k ∈ rng a b) : a ≤ k ∧ k < b := by
  unfold rng at h
  obtain ⟨i, hi, rfl⟩ := List.mem_map.mp h
  have := List.mem_range.mp hi
  omega
theorem plain_all {c : Int} (h1 : 1 ≤ c) (h2 : c ≤ 260) : ((rng c 260 ++ rng 1 c).map day).filter ntl = (rng c 260 ++ rng 1 c).map day := by
  refine List.filter_eq_self.mpr fun d hd => ?_
  obtain ⟨k, hk, rfl⟩ := List.mem_map.mp hd
  have hb : 1 ≤ k ∧ k < 260 := by
    rcases List.mem_append.mp hk with q | q
    · have := rng_mem q; omega
    · have := rng_mem q; omega
  unfold ntl day
  dsimp only
  rw [Bool.not_eq_true', Bool.and_eq_false_iff]
  by_cases e : nu k = 13
  · refine .inr ?_
    have : pl k ≠ 19 := by
      unfold nu at e
      unfold pl
      omega
    simpa using this
  · exact .inl (by simpa using e)
theorem plain_len {c : Int} (h1 : 1 ≤ c) (h2 : c ≤ 260) : (((rng c 260 ++ rng 1 c).map day).filter ntl).length = 259 := by
  rw [plain_all h1 h2, List.length_map, List.length_append, lenR, lenR]
  omega
theorem day_pls (ks : List Int) : Pls (ks.map day) := fun d hd => by
  obtain ⟨k, _, rfl⟩ := List.mem_map.mp hd
  show ((k - 1) % 20).toNat < 20
  omega
end Mine
end
section
open PySem PySem.W PyProof.Rows PySem.Calls
set_option linter.unusedVariables false
namespace Mine
set_option maxRecDepth 100000
set_option maxHeartbeats 4000000
local macro_rules | `(tactic| walk_at "eval Name") => `(tactic| (with_unfolding_all refine' ldL ?F ?v ?_ ?k ?l ?d; (case F => assumption); (case k => rfl); (case l => rfl); (case d => rfl); (case v => first | assumption | rfl)))
local macro_rules | `(tactic| walk_at "eval Name") => `(tactic| (with_unfolding_all refine' ldG ?T ?F ?e ?_ ?k ?g ?x ?d; (case T => assumption); (case F => assumption); (case k => rfl); (case g => rfl); (case x => rfl); (case d => rfl); (case e => rfl)))
local macro_rules | `(tactic| walk_at "eval Name") => `(tactic| (with_unfolding_all refine' ldB ?T ?F ?e ?v ?n ?_ ?k ?g ?b ?x ?d; (case T => assumption); (case F => assumption); (case k => rfl); (case g => rfl); (case b => rfl); (case x => rfl); (case d => rfl); (case e => rfl); (case v => boot_fast); (case n => decide)))
local macro_rules | `(tactic| walk_at "storeName") => `(tactic| (with_unfolding_all refine' stL ?F ?_ ?k ?l; (case F => assumption); (case k => rfl); (case l => rfl); intro h' F'))
local macro_rules | `(tactic| walk_at "callWith ref") => `(tactic| (with_unfolding_all refine' callWith_K (K := KK _) ?X ?k ?_; (case X => exact (Txt.k (by assumption))); (case k => rfl)))
local macro_rules | `(tactic| walk_at "callWith ref") => `(tactic| (with_unfolding_all refine' callWith_K0 (K := KK _) ?X ?k ?_; (case X => exact (Txt.keeps (by assumption) (Loc.st (by assumption))).k); (case k => rfl)))
local macro_rules | `(tactic| walk_at "And") => `(tactic| (refine ⟨(Txt.keeps (by assumption) (Loc.st (by assumption))).k, ?_⟩))
local macro_rules | `(tactic| walk_at "assign Tuple") => `(tactic| (refine' unpackL ?F ?hh ?ht ?hc ?hd ?hn ?hs ?_; (case F => assumption); (case hh => assumption); (case ht => assumption); (case hc => rfl); (case hd => rfl); (case hn => rfl); (case hs => rfl); intro h' F' k'))
local macro_rules | `(tactic| walk_at "tree") => `(tactic| first | (with_reducible show wpAny _ _ _ _ _ _) | (with_reducible show (if _ then _ else _)) | (with_reducible show Frag.In _ _ ∧ _))
local macro_rules | `(tactic| walk_at "mw") => `(tactic| repeat' (first | (walk_at "tree"; walk1) | (dsimp only; walk_at "tree"; walk1)))
local macro_rules | `(tactic| walk_at "newTuple") => `(tactic| (refine newTupleL (by assumption) (fun h' a' F' ka na Na oa => ?_)))
local macro_rules | `(tactic| walk_at "exec Assign") => `(tactic| (with_reducible refine plainObj_wpAny_Assign_Attribute ?_ ?_; rotate_left; with_unfolding_all rfl))
local macro_rules | `(tactic| walk_at "storeName") => `(tactic| (with_unfolding_all refine' stK ?F ?_ ?k ?l; (case F => assumption); (case k => rfl); (case l => rfl); intro h' F' k'))
section
variable {prog : Program} {w : World} {A : Around} {E : Value → Shared → Prop} {s : Shared} {mg mb : Str → Option Value} {fd : FuncData} {body : List Stmt} {B : Heap} {L U : Addr} {m : Str → Option Value} {N md : Int} {p : Nat} {t u v tu : Tok} {us : List Value} {ds : List (Int × Nat)} {bm : Addr} {ob : Obj}
theorem law_c {R : Value → Shared → Prop} (hg : IsLawFd w fd body) (T : Txt w mg mb B) (K : Blw A B [callEnv fd L 152] s.heap) (M : BMod B mainGlobals mg bm ob) (hh : A.handled = none) (hroom : A.depth + 40 < recursionLimit) (hU : A.units + 300 < cLine)
    (hTab : s.heap.get? 92 = some (tab #[])) (hB92 : B.get? 92 = none)
    (ns0 : s.heap.Ns L m) (hM : m (Str.ofString "mode") = some (.int md t)) (hN : m (Str.ofString "number") = some (.int N u)) (hX : m (Str.ofString "name") = some (.str (nmS p) v)) (hD : m (Str.ofString "due") = some (.ref U))
    (h1 : 1 ≤ N) (h2 : N ≤ 13) (hp : p < 20) (hm0 : 0 ≤ md) (hm5 : md < 5) (lU : s.heap.IsList U us.toArray)
    (dU : DayL s.heap us (((rng (cnt (startN md N) (startP md p)) 260 ++ rng 1 (cnt (startN md N) (startP md p))).map day).filter ntl))
    (h : ∀ s' m', (∀ b o, b ≠ 92 → b ≠ L → s.heap.get? b = some o → s'.heap.get? b = some o) → s'.heap.Ns L m' → (∀ x, x ≠ Str.ofString "told" → m' x = m x) → s'.os = s.os → Gk s.gens s'.gens → (∃ ps, s'.heap.get? 92 = some (tab ps)) →
      wpAny (model prog w) A (execs (body.drop 11) (callEnv fd L 152)) (fun f s'' => R (match f with | .ret v => v | _ => .none) s'') (fun _ _ => False) s') :
    wpAny (model prog w) A (execs (body.drop 9) (callEnv fd L 152)) (fun f s'' => R (match f with | .ret v => v | _ => .none) s'') (fun _ _ => False) s := by
  have hL : L ∈ fsOf [callEnv fd L 152] := by rw [fs_cons rfl]; exact .head _
  have hfs : ∀ b, b ≠ L → b ∉ fsOf [callEnv fd L 152] := fun b q z => by
    rw [fs_cons rfl] at z
    exact (List.mem_cons.mp z).elim q (fun z => by cases z)
  have L92 : (92 : Addr) ≠ L := fun q => by
    obtain ⟨o, _, _, ho, hd, _⟩ := ns0
    rw [← q, hTab] at ho; cases ho; cases hd
  have hBL : B.get? L = none := K.no hL
  have h1' : 1 ≤ startN md N ∧ startN md N ≤ 13 := by unfold startN; split <;> omega
  have hp' : startP md p < 20 := by unfold startP; split <;> omega
  obtain ⟨c1, c2, _, _⟩ := cnt_ok h1'.1 h1'.2 hp'
  generalize hcc : cnt (startN md N) (startP md p) = cc at c1 c2 dU
  obtain ⟨⟨o, ho, hd⟩, hb⟩ := hg
  have e := (rfl : (KK w).lookup 152 = some _)
  rw [e] at ho
  cases ho
  cases hd
  cases hb
  clear e
  simp only [List.drop_succ_cons, List.drop_zero] at h ⊢
  have F : Loc (s.heap.hide L) L s.heap m := ⟨ns0, fun _ _ e => Heap.of_hide e, Heap.hide_self ..⟩
  have T₀ : Txt w mg mb (s.heap.hide L) := T.keeps (StaysIn.hide K.stays _ hBL)
  walk_at "mw"
  refine wpAny_call ?_
  refine walk_spec T K M hh (by omega) (by omega) hTab hB92 (hfs _ L92) h1 h2 hp hm0 hm5 fun s₁ a ws c kp sl os gk na oa hl told x92 => ?_
  rw [hcc] at told
  have dW : DayL s₁.heap ws ((rng cc 260 ++ rng 1 cc).map day) := told.days (by rw [hl, List.length_append, lenR, lenR]; omega)
  have ns₁ := sl.ns ns0 hL
  have F₁ : Loc (s₁.heap.hide L) L s₁.heap m := ⟨ns₁, fun _ _ e => Heap.of_hide e, Heap.hide_self ..⟩
  have kp' : ∀ b o, b ≠ 92 → b ≠ L → s.heap.get? b = some o → s₁.heap.get? b = some o := fun b o q1 q2 e => kp b o q1 (hfs b q2) e
  have T₁ : Txt w mg mb (s₁.heap.hide L) := T.keeps fun b o e => (Heap.hide_ne _ (ne_of_get e hBL)).trans (kp b o (ne_of_get e hB92) (K.notin e) (K.stays _ _ e))
  clear F T₀
  obtain ⟨h₁, g₁, dr₁, tk₁, os₁⟩ := s₁
  dsimp only at *
  walk_at "mw"
  refine wpAny_call (but_last_spec (ds := (rng cc 260 ++ rng 1 cc).map day) (T₁.keeps F₁.st) hh (by omega) (by omega) ⟨_, oa, rfl, _, rfl⟩ dW (day_pls _) (by rw [hl]; decide) fun h₂ V ws' tk₂ k₂ nV dV lV => ?_)
  dsimp only at nV k₂
  have F₂ := F₁.keeps k₂
  have VL : V ≠ L := F₁.ne nV
  clear F₁
  dsimp only
  walk_at "mw"
  rename_i h₃ F₃ k₃
  have up : ∀ b o, b ≠ 92 → b ≠ L → s.heap.get? b = some o → h₃.get? b = some o := fun b o q1 q2 e => k₃ b o q2 (k₂ _ _ (kp' b o q1 q2 e))
  have vl : ws'.toArray.size = 259 := by rw [List.size_toArray, dV.length, plain_len c1 c2]
  have lV₃ : h₃.IsList V ws'.toArray := let ⟨o, ho, r⟩ := lV; ⟨o, k₃ _ _ VL ho, r⟩
  have dV₃ : DayL h₃ ws' (((rng cc 260 ++ rng 1 cc).map day).filter ntl) := DayL.of dV.length fun i v d e1 e2 => by
    obtain ⟨a, d', t', u', q, z, o⟩ := dV.at i v e1
    rw [z] at e2; cases e2
    exact ⟨a, t', u', q, k₃ _ _ (F₂.ne' o) o⟩
  have ne92 : ∀ (a : Addr) (vs : Array Value) (n : Nat) (c : Value) (d : Option Addr) (sl : Array (Option Value)), s.heap.get? a = some ⟨c, d, .seq vs n, sl⟩ → a ≠ 92 := fun a vs n c d sl e q => by
    rw [q, hTab] at e; cases e
  have neL : ∀ (a : Addr) (vs : Array Value) (n : Nat) (c : Value) (d : Option Addr) (sl : Array (Option Value)), s.heap.get? a = some ⟨c, d, .seq vs n, sl⟩ → a ≠ L := fun a vs n c d sl e q => by
    obtain ⟨oL, _, _, hoL, hdL, _⟩ := ns0
    rw [q, hoL] at e; cases e; cases hdL
  have lU₃ : h₃.IsList U us.toArray := by
    obtain ⟨⟨c, d, dt, sl⟩, ho, hc, n, hd⟩ := lU
    simp only at hc hd
    subst hc hd
    exact ⟨_, up _ _ (ne92 _ _ _ _ _ _ ho) (neL _ _ _ _ _ _ ho) ho, rfl, _, rfl⟩
  have dU₃ : DayL h₃ us (((rng cc 260 ++ rng 1 cc).map day).filter ntl) := DayL.of dU.length fun i v d e1 e2 => by
    obtain ⟨a, d', t', u', q, z, o⟩ := dU.at i v e1
    rw [z] at e2; cases e2
    exact ⟨a, t', u', q, up _ _ (ne92 _ _ _ _ _ _ o) (neL _ _ _ _ _ _ o) o⟩
  refine call_len_list lV₃ (by rw [vl]; decide) ?_
  rw [vl]
  walk_at "mw"
  all_goals first | (exfalso; omega) | skip
  refine listsSame lV₃ lU₃ dV₃ dU₃ (by omega) ?_
  refine wpAny_truthy_bool ?_
  rw [if_neg Bool.false_ne_true]
  refine isTrue_or_nil ?_
  rw [if_neg Bool.false_ne_true]
  refine wpAny_execs_nil ?_
  dsimp only
  refine h { heap := h₃, gens := g₁, drawn := dr₁, toks := _, os := os₁ } _ up F₃.ns ?_ os gk ?_
  · intro x q
    exact if_neg q
  · obtain ⟨ps, e⟩ := x92
    exact ⟨ps, k₃ _ _ L92 (k₂ _ _ e)⟩
end
end Mine
end
section
open PySem PySem.W PyProof.Rows PySem.Calls
set_option linter.unusedVariables false
namespace Mine
set_option maxRecDepth 100000
set_option maxHeartbeats 4000000
local macro_rules | `(tactic| walk_at "eval Name") => `(tactic| (with_unfolding_all refine' ldL ?F ?v ?_ ?k ?l ?d; (case F => assumption); (case k => rfl); (case l => rfl); (case d => rfl); (case v => first | assumption | rfl)))
local macro_rules | `(tactic| walk_at "eval Name") => `(tactic| (with_unfolding_all refine' ldG ?T ?F ?e ?_ ?k ?g ?x ?d; (case T => assumption); (case F => assumption); (case k => rfl); (case g => rfl); (case x => rfl); (case d => rfl); (case e => rfl)))
local macro_rules | `(tactic| walk_at "eval Name") => `(tactic| (with_unfolding_all refine' ldB ?T ?F ?e ?v ?n ?_ ?k ?g ?b ?x ?d; (case T => assumption); (case F => assumption); (case k => rfl); (case g => rfl); (case b => rfl); (case x => rfl); (case d => rfl); (case e => rfl); (case v => boot_fast); (case n => decide)))
local macro_rules | `(tactic| walk_at "storeName") => `(tactic| (with_unfolding_all refine' stL ?F ?_ ?k ?l; (case F => assumption); (case k => rfl); (case l => rfl); intro h' F'))
local macro_rules | `(tactic| walk_at "callWith ref") => `(tactic| (with_unfolding_all refine' callWith_K (K := KK _) ?X ?k ?_; (case X => exact (Txt.k (by assumption))); (case k => rfl)))
local macro_rules | `(tactic| walk_at "callWith ref") => `(tactic| (with_unfolding_all refine' callWith_K0 (K := KK _) ?X ?k ?_; (case X => exact (Txt.keeps (by assumption) (Loc.st (by assumption))).k); (case k => rfl)))
local macro_rules | `(tactic| walk_at "And") => `(tactic| (refine ⟨(Txt.keeps (by assumption) (Loc.st (by assumption))).k, ?_⟩))
local macro_rules | `(tactic| walk_at "assign Tuple") => `(tactic| (refine' unpackL ?F ?hh ?ht ?hc ?hd ?hn ?hs ?_; (case F => assumption); (case hh => assumption); (case ht => assumption); (case hc => rfl); (case hd => rfl); (case hn => rfl); (case hs => rfl); intro h' F' k'))
local macro_rules | `(tactic| walk_at "tree") => `(tactic| first | (with_reducible show wpAny _ _ _ _ _ _) | (with_reducible show (if _ then _ else _)) | (with_reducible show Frag.In _ _ ∧ _))
local macro_rules | `(tactic| walk_at "mw") => `(tactic| repeat' (first | (walk_at "tree"; walk1) | (dsimp only; walk_at "tree"; walk1)))
local macro_rules | `(tactic| walk_at "newTuple") => `(tactic| (refine newTupleL (by assumption) (fun h' a' F' ka na Na oa => ?_)))
local macro_rules | `(tactic| walk_at "exec Assign") => `(tactic| (with_reducible refine plainObj_wpAny_Assign_Attribute ?_ ?_; rotate_left; with_unfolding_all rfl))
local macro_rules | `(tactic| walk_at "storeName") => `(tactic| (with_unfolding_all refine' stK ?F ?_ ?k ?l; (case F => assumption); (case k => rfl); (case l => rfl); intro h' F' k'))
theorem day_e (ev : Int) : dayAt ((ev - 1) % 260).toNat = (nu ev, pl ev) := by
  rw [day_at]
  unfold day nu pl
  refine Prod.ext ?_ ?_
  · show ((((ev - 1) % 260).toNat : Int) + 1 - 1) % 13 + 1 = (ev - 1) % 13 + 1
    omega
  · show (((((ev - 1) % 260).toNat : Int) + 1 - 1) % 20).toNat = ((ev - 1) % 20).toNat
    omega
theorem nu_260 (ev : Int) : nu (ev + 260) = nu ev := by unfold nu; omega
theorem pl_260 (ev : Int) : pl (ev + 260) = pl ev := by unfold pl; omega
theorem daySame {prog : Program} {w : World} {A : Around} {E : Value → Shared → Prop} {s : Shared} {a b : Addr} {n : Int} {x : Str} {t u t' u' : Tok} {Q : Value → Shared → Prop} (ha : s.heap.get? a = some (dayObj n x t u)) (hb : s.heap.get? b = some (dayObj n x t' u')) (hu : A.units < cLine)
    (h : Q (.bool false) s) : wpAny (model prog w) A (compareOp .NotEq (.ref a) (.ref b)) Q E s := by
  refine dayNe ha hb hu prog w E Q ?_
  simpa using h
section
variable {prog : Program} {w : World} {A : Around} {E : Value → Shared → Prop} {s : Shared} {mg mb : Str → Option Value} {fd : FuncData} {body : List Stmt} {B : Heap} {L D st : Addr} {m : Str → Option Value} {N ev : Int} {p : Nat} {t u v tu : Tok} {vs : List Value}
theorem law_d {R : Value → Shared → Prop} (hg : IsLawFd w fd body) (T : Txt w mg mb B) (hB : B.StaysIn s.heap) (hh : A.handled = none) (hroom : A.depth + 40 < recursionLimit) (hU : A.units + 300 < cLine)
    (ns0 : s.heap.Ns L m) (hBL : B.get? L = none) (hE : m (Str.ofString "e") = some (.int ev t)) (hP : m (Str.ofString "place") = some (.int (cnt N p - 1) u)) (hD : m (Str.ofString "days") = some (.ref D)) (hS : m (Str.ofString "start") = some (.ref st))
    (h1 : 1 ≤ N) (h2 : N ≤ 13) (hp : p < 20) (lD : s.heap.IsList D vs.toArray) (dD : DayL s.heap vs (round 260)) (oS : s.heap.get? st = some (dayObj N (nmS p) v tu))
    (h : ∀ h' tk, s.heap.StaysIn h' → wpAny (model prog w) A (execs (body.drop 14) (callEnv fd L 152)) (fun f s'' => R (match f with | .ret v => v | _ => .none) s'') (fun _ _ => False) { s with heap := h', toks := tk }) :
    wpAny (model prog w) A (execs (body.drop 11) (callEnv fd L 152)) (fun f s'' => R (match f with | .ret v => v | _ => .none) s'') (fun _ _ => False) s := by
  obtain ⟨⟨o, ho, hd⟩, hb⟩ := hg
  have e := (rfl : (KK w).lookup 152 = some _)
  rw [e] at ho
  cases ho
  cases hd
  cases hb
  clear e
  simp only [List.drop_succ_cons, List.drop_zero] at h ⊢
  have F : Loc (s.heap.hide L) L s.heap m := ⟨ns0, fun _ _ e => Heap.of_hide e, Heap.hide_self ..⟩
  have T₀ : Txt w mg mb (s.heap.hide L) := T.keeps (StaysIn.hide hB _ hBL)
  have vl : vs.length = 260 := dD.length.trans round_len
  walk_at "mw"
  refine wpAny_call (from_count_spec (T₀.keeps F.st) hh (by omega) fun h₁ a₁ t₁ u₁ tk₁ k₁ n₁ o₁ => ?_)
  have F₁ := F.keeps k₁
  dsimp only
  walk_at "mw"
  have hfm : (ev - 1).fmod 260 = ((((ev - 1) % 260).toNat : Nat) : Int) := by rw [Int.fmod_eq_emod_of_nonneg _ (by decide)]; omega
  have hlt : ((ev - 1) % 260).toNat < 260 := by omega
  rw [hfm]
  obtain ⟨b₁, d₁, t₂, u₂, q₁, z₁, o₂⟩ := dD.at ((ev - 1) % 260).toNat vs[((ev - 1) % 260).toNat] (List.getElem?_eq_getElem (by omega))
  refine list_item (vs := vs) (isListKeeps lD k₁) (by omega) (List.getElem?_eq_getElem (by omega)) ?_
  rw [q₁]
  rw [round_at hlt] at z₁
  cases z₁
  rw [day_e] at o₂
  refine daySame (by exact o₁) (k₁ _ _ o₂) (by omega) ?_
  clear F
  walk_at "mw"
  refine wpAny_call (from_count_spec (T₀.keeps F₁.st) hh (by omega) fun h₂ a₂ t₂ u₂ tk₂ k₂ n₂ o₂ => ?_)
  have F₂ := F₁.keeps k₂
  rw [Int.sub_add_cancel, (cnt_ok h1 h2 hp).2.2.1, (cnt_ok h1 h2 hp).2.2.2] at o₂
  clear F₁
  dsimp only at k₂ o₂ ⊢
  walk_at "mw"
  refine daySame (by exact o₂) (k₂ _ _ (k₁ _ _ oS)) (by omega) ?_
  walk_at "mw"
  refine wpAny_call (from_count_spec (T₀.keeps F₂.st) hh (by omega) fun h₃ a₃ t₃ u₃ tk₃ k₃ n₃ o₃ => ?_)
  have F₃ := F₂.keeps k₃
  rw [nu_260, pl_260] at o₃
  clear F₂
  dsimp only at k₃ o₃ ⊢
  walk_at "mw"
  refine wpAny_call (from_count_spec (T₀.keeps F₃.st) hh (by omega) fun h₄ a₄ t₄ u₄ tk₄ k₄ n₄ o₄ => ?_)
  have F₄ := F₃.keeps k₄
  clear F₃
  dsimp only at k₄ o₄ ⊢
  walk_at "mw"
  refine daySame (by exact k₄ _ _ o₃) o₄ (by omega) ?_
  refine wpAny_truthy_bool ?_
  rw [if_neg Bool.false_ne_true]
  refine wpAny_execs_nil ?_
  dsimp only
  exact h h₄ _ (StaysIn.trans k₁ (StaysIn.trans k₂ (StaysIn.trans k₃ k₄)))
end
end Mine
end
section
open PySem PySem.W PyProof.Rows PySem.Calls
set_option linter.unusedVariables false
namespace Mine
set_option maxRecDepth 100000
set_option maxHeartbeats 4000000
local macro_rules | `(tactic| walk_at "eval Name") => `(tactic| (with_unfolding_all refine' ldL ?F ?v ?_ ?k ?l ?d; (case F => assumption); (case k => rfl); (case l => rfl); (case d => rfl); (case v => first | assumption | rfl)))
local macro_rules | `(tactic| walk_at "eval Name") => `(tactic| (with_unfolding_all refine' ldG ?T ?F ?e ?_ ?k ?g ?x ?d; (case T => assumption); (case F => assumption); (case k => rfl); (case g => rfl); (case x => rfl); (case d => rfl); (case e => rfl)))
local macro_rules | `(tactic| walk_at "eval Name") => `(tactic| (with_unfolding_all refine' ldB ?T ?F ?e ?v ?n ?_ ?k ?g ?b ?x ?d; (case T => assumption); (case F => assumption); (case k => rfl); (case g => rfl); (case b => rfl); (case x => rfl); (case d => rfl); (case e => rfl); (case v => boot_fast); (case n => decide)))
local macro_rules | `(tactic| walk_at "storeName") => `(tactic| (with_unfolding_all refine' stL ?F ?_ ?k ?l; (case F => assumption); (case k => rfl); (case l => rfl); intro h' F'))
local macro_rules | `(tactic| walk_at "callWith ref") => `(tactic| (with_unfolding_all refine' callWith_K (K := KK _) ?X ?k ?_; (case X => exact (Txt.k (by assumption))); (case k => rfl)))
local macro_rules | `(tactic| walk_at "callWith ref") => `(tactic| (with_unfolding_all refine' callWith_K0 (K := KK _) ?X ?k ?_; (case X => exact (Txt.keeps (by assumption) (Loc.st (by assumption))).k); (case k => rfl)))
local macro_rules | `(tactic| walk_at "And") => `(tactic| (refine ⟨(Txt.keeps (by assumption) (Loc.st (by assumption))).k, ?_⟩))
local macro_rules | `(tactic| walk_at "assign Tuple") => `(tactic| (refine' unpackL ?F ?hh ?ht ?hc ?hd ?hn ?hs ?_; (case F => assumption); (case hh => assumption); (case ht => assumption); (case hc => rfl); (case hd => rfl); (case hn => rfl); (case hs => rfl); intro h' F' k'))
local macro_rules | `(tactic| walk_at "tree") => `(tactic| first | (with_reducible show wpAny _ _ _ _ _ _) | (with_reducible show (if _ then _ else _)) | (with_reducible show Frag.In _ _ ∧ _))
local macro_rules | `(tactic| walk_at "mw") => `(tactic| repeat' (first | (walk_at "tree"; walk1) | (dsimp only; walk_at "tree"; walk1)))
local macro_rules | `(tactic| walk_at "newTuple") => `(tactic| (refine newTupleL (by assumption) (fun h' a' F' ka na Na oa => ?_)))
local macro_rules | `(tactic| walk_at "exec Assign") => `(tactic| (with_reducible refine plainObj_wpAny_Assign_Attribute ?_ ?_; rotate_left; with_unfolding_all rfl))
local macro_rules | `(tactic| walk_at "storeName") => `(tactic| (with_unfolding_all refine' stK ?F ?_ ?k ?l; (case F => assumption); (case k => rfl); (case l => rfl); intro h' F' k'))
theorem low_nm : ∀ p, p < 20 → tz.toArray.any (isNm (Txt.lower (nmS p))) = false ∧ (Txt.lower (nmS p)).length < 1000 ∧ (Txt.lower (nmS p)).length ≠ 0 := by decide +kernel
section
variable {w : World} {A : Around} {s : Shared} {mg mb : Str → Option Value} {B : Heap} {l : List Env} {h₀ h₁ : Heap}
theorem Blw.after (K : Blw A B l h₀) (k : ∀ b o, b ∉ fsOf l → h₀.get? b = some o → h₁.get? b = some o) (sl : Slt (fsOf l) h₀ h₁) : Blw A B l h₁ := K.move sl fun b o e => k b o (K.notin e) (K.stays _ _ e)
end
section
variable {prog : Program} {w : World} {A : Around} {E : Value → Shared → Prop} {s : Shared} {mg mb : Str → Option Value} {fd : FuncData} {body : List Stmt} {B : Heap} {L : Addr} {m : Str → Option Value} {N a : Int} {p : Nat} {t u v : Tok}
theorem law_e {R : Value → Shared → Prop} (hg : IsLawFd w fd body) (T : Txt w mg mb B) (K : Blw A B [callEnv fd L 152] s.heap) (hh : A.handled = none) (hroom : A.depth + 40 < recursionLimit) (hU : A.units + 300 < cLine)
    (ns0 : s.heap.Ns L m) (hA : m (Str.ofString "a") = some (.int a t)) (hN : m (Str.ofString "number") = some (.int N u)) (hX : m (Str.ofString "name") = some (.str (nmS p) v))
    (h1 : 1 ≤ N) (h2 : N ≤ 13) (hp : p < 20)
    (h : ∀ s', (∀ b o, b ≠ L → s.heap.get? b = some o → s'.heap.get? b = some o) → s'.os = s.os → Gk s.gens s'.gens → R (.bool true) s') :
    wpAny (model prog w) A (execs (body.drop 14) (callEnv fd L 152)) (fun f s'' => R (match f with | .ret v => v | _ => .none) s'') (fun _ _ => False) s := by
  have hL : L ∈ fsOf [callEnv fd L 152] := by rw [fs_cons rfl]; exact .head _
  have hfs : ∀ b, b ≠ L → b ∉ fsOf [callEnv fd L 152] := fun b q z => by
    rw [fs_cons rfl] at z
    exact (List.mem_cons.mp z).elim q (fun z => by cases z)
  have hBL : B.get? L = none := K.no hL
  obtain ⟨⟨o, ho, hd⟩, hb⟩ := hg
  have e := (rfl : (KK w).lookup 152 = some _)
  rw [e] at ho
  cases ho
  cases hd
  cases hb
  clear e
  simp only [List.drop_succ_cons, List.drop_zero] at h ⊢
  have F : Loc (s.heap.hide L) L s.heap m := ⟨ns0, fun _ _ e => Heap.of_hide e, Heap.hide_self ..⟩
  have T₀ : Txt w mg mb (s.heap.hide L) := T.keeps (StaysIn.hide K.stays _ hBL)
  walk_at "mw"
  have hfm : a.fmod 100 = a % 100 := Int.fmod_eq_emod_of_nonneg _ (by decide)
  rw [hfm]
  refine wpAny_call ?_
  refine refusal_spec (X := "ValueError") T K hh (by omega) (numInt (by omega) _) (namStr hp _) (.inl ⟨rfl, .inl (by omega)⟩) fun s₁ v₁ k₁ sl₁ os₁ gk₁ => ?_
  obtain ⟨g₁, gn₁, dr₁, tk₁, o₁⟩ := s₁
  dsimp only at k₁ sl₁ os₁ gk₁
  have K₁ := K.after k₁ sl₁
  have F₁ : Loc (g₁.hide L) L g₁ m := ⟨sl₁.ns ns0 hL, fun _ _ e => Heap.of_hide e, Heap.hide_self ..⟩
  have T₁ : Txt w mg mb (g₁.hide L) := T.keeps (StaysIn.hide K₁.stays _ hBL)
  clear F T₀
  rw [if_pos rfl]
  dsimp only
  walk_at "mw"
  all_goals first | (rename_i hc; exact absurd hc (by decide)) | skip
  refine wpAny_call ?_
  refine refusal_spec (X := "ValueError") T K₁ hh (by omega) (numInt h1 _) (x' := Str.ofString "Nobody") (.inr ⟨_, _, rfl, by decide, rfl⟩) (.inl ⟨rfl, .inr ⟨h2, by decide +kernel⟩⟩) fun s₂ v₂ k₂ sl₂ os₂ gk₂ => ?_
  obtain ⟨g₂, gn₂, dr₂, tk₂, o₂⟩ := s₂
  dsimp only at k₂ sl₂ os₂ gk₂
  have K₂ := K₁.after k₂ sl₂
  have F₂ : Loc (g₂.hide L) L g₂ m := ⟨sl₂.ns F₁.ns hL, fun _ _ e => Heap.of_hide e, Heap.hide_self ..⟩
  have T₂ : Txt w mg mb (g₂.hide L) := T.keeps (StaysIn.hide K₂.stays _ hBL)
  clear F₁ T₁
  rw [if_pos rfl]
  dsimp only
  walk_at "mw"
  all_goals first | (rename_i hc; exact absurd hc (by decide)) | skip
  obtain ⟨w1, w2, w3⟩ := low_nm p hp
  refine SC.lower (fit_lower (by have := (nmS_len p hp).1; omega)) ?_
  walk_at "mw"
  refine wpAny_call ?_
  refine refusal_spec (X := "ValueError") T K₂ hh (by omega) (numInt h1 _) (x' := Txt.lower (nmS p)) (.inr ⟨_, _, rfl, w2, by rw [if_neg w3]⟩) (.inl ⟨rfl, .inr ⟨h2, w1⟩⟩) fun s₃ v₃ k₃ sl₃ os₃ gk₃ => ?_
  obtain ⟨g₃, gn₃, dr₃, tk₃, o₃⟩ := s₃
  dsimp only at k₃ sl₃ os₃ gk₃
  have K₃ := K₂.after k₃ sl₃
  have F₃ : Loc (g₃.hide L) L g₃ m := ⟨sl₃.ns F₂.ns hL, fun _ _ e => Heap.of_hide e, Heap.hide_self ..⟩
  have T₃ : Txt w mg mb (g₃.hide L) := T.keeps (StaysIn.hide K₃.stays _ hBL)
  clear F₂ T₂
  rw [if_pos rfl]
  dsimp only
  walk_at "mw"
  all_goals first | (rename_i hc; exact absurd hc (by decide)) | skip
  rw [hfm]
  refine wpAny_call ?_
  refine refusal_spec (X := "IndexError") (N := -1 - a % 100) T K₃ hh (by omega) (.inr ⟨_, _, rfl, by rw [if_neg (by omega)]⟩) (namStr hp _) (.inr ⟨rfl, by omega, p, hp, rfl⟩) fun s₄ v₄ k₄ sl₄ os₄ gk₄ => ?_
  obtain ⟨g₄, gn₄, dr₄, tk₄, o₄⟩ := s₄
  dsimp only at k₄ sl₄ os₄ gk₄
  have K₄ := K₃.after k₄ sl₄
  have F₄ : Loc (g₄.hide L) L g₄ m := ⟨sl₄.ns F₃.ns hL, fun _ _ e => Heap.of_hide e, Heap.hide_self ..⟩
  have T₄ : Txt w mg mb (g₄.hide L) := T.keeps (StaysIn.hide K₄.stays _ hBL)
  clear F₃ T₃
  rw [if_neg (by decide)]
  dsimp only
  walk_at "mw"
  rw [show (Str.ofString "index" == Str.ofString "index") = true by decide]
  exact h { heap := g₄, gens := gn₄, drawn := dr₄, toks := tk₄ + 1, os := o₄ } (fun b o q e => k₄ _ _ (hfs b q) (k₃ _ _ (hfs b q) (k₂ _ _ (hfs b q) (k₁ _ _ (hfs b q) e)))) (os₄.trans (os₃.trans (os₂.trans os₁))) (gk₁.trans (gk₂.trans (gk₃.trans gk₄)))
end
end Mine
end
section
open PySem PySem.W PyProof.Rows PySem.Calls
set_option linter.unusedVariables false
namespace Mine
set_option maxRecDepth 100000
set_option maxHeartbeats 4000000
local macro_rules | `(tactic| walk_at "eval Name") => `(tactic| (with_unfolding_all refine' ldL ?F ?v ?_ ?k ?l ?d; (case F => assumption); (case k => rfl); (case l => rfl); (case d => rfl); (case v => first | assumption | rfl)))
local macro_rules | `(tactic| walk_at "eval Name") => `(tactic| (with_unfolding_all refine' ldG ?T ?F ?e ?_ ?k ?g ?x ?d; (case T => assumption); (case F => assumption); (case k => rfl); (case g => rfl); (case x => rfl); (case d => rfl); (case e => rfl)))
local macro_rules | `(tactic| walk_at "eval Name") => `(tactic| (with_unfolding_all refine' ldB ?T ?F ?e ?v ?n ?_ ?k ?g ?b ?x ?d; (case T => assumption); (case F => assumption); (case k => rfl); (case g => rfl); (case b => rfl); (case x => rfl); (case d => rfl); (case e => rfl); (case v => boot_fast); (case n => decide)))
local macro_rules | `(tactic| walk_at "storeName") => `(tactic| (with_unfolding_all refine' stL ?F ?_ ?k ?l; (case F => assumption); (case k => rfl); (case l => rfl); intro h' F'))
local macro_rules | `(tactic| walk_at "callWith ref") => `(tactic| (with_unfolding_all refine' callWith_K (K := KK _) ?X ?k ?_; (case X => exact (Txt.k (by assumption))); (case k => rfl)))
local macro_rules | `(tactic| walk_at "callWith ref") => `(tactic| (with_unfolding_all refine' callWith_K0 (K := KK _) ?X ?k ?_; (case X => exact (Txt.keeps (by assumption) (Loc.st (by assumption))).k); (case k => rfl)))
local macro_rules | `(tactic| walk_at "And") => `(tactic| (refine ⟨(Txt.keeps (by assumption) (Loc.st (by assumption))).k, ?_⟩))
local macro_rules | `(tactic| walk_at "assign Tuple") => `(tactic| (refine' unpackL ?F ?hh ?ht ?hc ?hd ?hn ?hs ?_; (case F => assumption); (case hh => assumption); (case ht => assumption); (case hc => rfl); (case hd => rfl); (case hn => rfl); (case hs => rfl); intro h' F' k'))
local macro_rules | `(tactic| walk_at "tree") => `(tactic| first | (with_reducible show wpAny _ _ _ _ _ _) | (with_reducible show (if _ then _ else _)) | (with_reducible show Frag.In _ _ ∧ _))
local macro_rules | `(tactic| walk_at "mw") => `(tactic| repeat' (first | (walk_at "tree"; walk1) | (dsimp only; walk_at "tree"; walk1)))
local macro_rules | `(tactic| walk_at "newTuple") => `(tactic| (refine newTupleL (by assumption) (fun h' a' F' ka na Na oa => ?_)))
local macro_rules | `(tactic| walk_at "exec Assign") => `(tactic| (with_reducible refine plainObj_wpAny_Assign_Attribute ?_ ?_; rotate_left; with_unfolding_all rfl))
section
variable {prog : Program} {w : World} {A : Around} {E : Value → Shared → Prop} {s : Shared} {mg mb : Str → Option Value} {B : Heap} {S : Addr} {vs : List Value} {ns : List Int} {bm : Addr} {ob : Obj} {env : Env}
theorem execs_split {Q : Flow → Shared → Prop} (pre rest : List Stmt) (h : wpAny (model prog w) A (execs pre env) (fun f s' => match f with | .next => wpAny (model prog w) A (execs rest env) Q E s' | f => Q f s') E s) : wpAny (model prog w) A (execs (pre ++ rest) env) Q E s := by
  rw [execs_app]
  refine wpAny_bind (wpAny_mono h (fun f s' hf => ?_) fun _ _ z => z)
  cases f with
  | next => exact hf
  | _ => exact wpAny_pure hf
theorem law_split (body : List Stmt) : body = body.take 6 ++ ((body.drop 6).take 3 ++ body.drop 9) := by
  conv => lhs; rw [← List.take_append_drop 6 body, ← List.take_append_drop 3 (body.drop 6), List.drop_drop]
theorem law_spec {R : Result → Shared → Prop} (T : Txt w mg mb B) (K : Blw A B [] s.heap) (M : BMod B mainGlobals mg bm ob) (hh : A.handled = none) (hroom : A.depth + 60 < recursionLimit) (hU : A.units + 400 < cLine)
    (hTab : s.heap.get? 92 = some (tab #[])) (hB92 : B.get? 92 = none) (hl : s.heap.IsList S vs.toArray) (hI : IntsAre vs ns) (hn : ns.length ≤ 63)
    (h : ∀ s', (∀ b o, b ≠ 92 → s.heap.get? b = some o → s'.heap.get? b = some o) → s'.os = s.os → Gk s.gens s'.gens → (∃ ps, s'.heap.get? 92 = some (tab ps)) → R (.ok (.ret (.bool true))) s') :
    codeAny (model prog w) A (.call (.ref 152) ⟨[.ref S], []⟩) R s := by
  suffices key : ∀ fd body, IsLawFd w fd body → (callEnv fd s.heap.objs.size 152).scope.kind = .function → ∀ h₀ tk, Loc s.heap s.heap.objs.size h₀ (fun x => [(Str.ofString "script", Value.ref S)].reverse.lookup x) →
      wpAny (model prog w) (A.deeper (callEnv fd s.heap.objs.size 152)) (execs body (callEnv fd s.heap.objs.size 152)) (fun fl s' => R (.ok (.ret (match fl with | .ret v => v | _ => .none))) s') (fun _ _ => False) { s with heap := h₀, toks := tk } by
    refine enterP (binds := [(Str.ofString "script", .ref S)]) (T.keeps K.stays) (by omega) rfl rfl rfl rfl rfl (by decide) rfl rfl rfl rfl fun h₀ F => key _ _ ⟨⟨_, rfl, rfl⟩, rfl⟩ rfl h₀ _ F
  intro fd body hg hk h₀ tk F
  generalize hL : s.heap.objs.size = L at *
  have hBL : B.get? L = none := hL ▸ Heap.StaysIn.fresh K.stays
  have nL : ∀ b o, s.heap.get? b = some o → b ≠ L := fun b o e => ne_of_get e F.nl
  have hB₀ : B.StaysIn h₀ := StaysIn.trans K.stays F.st
  have hbx : ∀ h', (∀ b o, b ≠ L → h₀.get? b = some o → h'.get? b = some o) → B.StaysIn h' := fun h' k b o e => k b o (ne_of_get e hBL) (hB₀ _ _ e)
  rw [law_split body]
  refine execs_split _ _ ?_
  refine law_a hg T hB₀ hh (by show A.depth + 1 + 9 < recursionLimit; omega) F.ns hBL rfl (isListKeeps hl F.st) hI hn fun h₁ m₁ tk₁ st t1 t2 t3 t4 t5 k₁ ns₁ mA mE mN mX mM mS stL oS => ?_
  dsimp only at k₁ ⊢
  obtain ⟨t6, t7, oS⟩ := oS
  have a1 : 1 ≤ 1 + ns.getD 0 0 % 13 := by omega
  have a2 : 1 + ns.getD 0 0 % 13 ≤ 13 := by omega
  have a3 : (ns.getD 1 0 % 20).toNat < 20 := by omega
  have a4 : 0 ≤ ns.getD 2 0 % 5 := by omega
  have a5 : ns.getD 2 0 % 5 < 5 := by omega
  generalize 1 + ns.getD 0 0 % 13 = N at *
  generalize (ns.getD 1 0 % 20).toNat = p at *
  generalize ns.getD 2 0 % 5 = md at *
  generalize ns.getD 0 0 = av at *
  generalize ns.getD 3 0 = ev at *
  have b1 : 1 ≤ startN md N ∧ startN md N ≤ 13 := by unfold startN; split <;> omega
  have b2 : startP md p < 20 := by unfold startP; split <;> omega
  obtain ⟨c1, c2, _, _⟩ := cnt_ok b1.1 b1.2 b2
  refine execs_split _ _ ?_
  refine law_b hg T (hbx _ k₁) hh (by show A.depth + 1 + 12 < recursionLimit; omega) (by simp only [units_deeper]; omega) ns₁ hBL mS oS b1.1 b1.2 b2 fun h₂ m₂ tk₂ D U vs₂ us t8 k₂ ns₂ mk mD mP mU lD dD lU dU => ?_
  dsimp only at k₂ ⊢
  rw [plain c1 c2] at dU
  have k02 : ∀ b o, b ≠ L → h₀.get? b = some o → h₂.get? b = some o := fun b o q e => k₂ b o q (k₁ b o q e)
  have up2 : s.heap.StaysIn h₂ := fun b o e => k02 b o (nL b o e) (F.st _ _ e)
  have K₂ : Blw A B [] h₂ := K.keeps up2
  have KL : Blw (A.deeper (callEnv fd L 152)) B [callEnv fd L 152] h₂ := K₂.deep ns₂ hBL rfl hk
  have T2 : h₂.get? 92 = some (tab #[]) := up2 _ _ hTab
  have ne92 : ∀ (a : Addr) (vs : Array Value) (n : Nat) (c : Value) (d : Option Addr) (sl : Array (Option Value)), h₂.get? a = some ⟨c, d, .seq vs n, sl⟩ → a ≠ 92 := fun a vs n c d sl e q => by
    rw [q, T2] at e; cases e
  have neL : ∀ (a : Addr) (vs : Array Value) (n : Nat) (c : Value) (d : Option Addr) (sl : Array (Option Value)), h₂.get? a = some ⟨c, d, .seq vs n, sl⟩ → a ≠ L := fun a vs n c d sl e q => by
    obtain ⟨oL, _, _, hoL, hdL, _⟩ := ns₂
    rw [q, hoL] at e; cases e; cases hdL
  refine law_c (R := fun v s' => R (.ok (.ret v)) s') hg T KL M hh (by show A.depth + 1 + 40 < recursionLimit; omega) (by simp only [units_deeper]; omega) T2 hB92 ns₂ ((mk _ (by decide) (by decide) (by decide)).trans mM) ((mk _ (by decide) (by decide) (by decide)).trans mN) ((mk _ (by decide) (by decide) (by decide)).trans mX) mU a1 a2 a3 a4 a5 lU dU fun s₃ m₃ k₃ ns₃ mk₃ os₃ gk₃ x92 => ?_
  dsimp only at k₃ os₃ gk₃
  have B₃ : B.StaysIn s₃.heap := fun b o e => k₃ b o (ne_of_get e hB92) (ne_of_get e hBL) (KL.stays _ _ e)
  have lD₃ : s₃.heap.IsList D vs₂.toArray := by
    obtain ⟨⟨c, d, dt, sl⟩, ho, hc, n, hd⟩ := lD
    simp only at hc hd
    subst hc hd
    exact ⟨_, k₃ _ _ (ne92 _ _ _ _ _ _ ho) (neL _ _ _ _ _ _ ho) ho, rfl, _, rfl⟩
  have dD₃ : DayL s₃.heap vs₂ (round 260) := DayL.of dD.length fun i v d e1 e2 => by
    obtain ⟨a, d', t', u', q, z, o⟩ := dD.at i v e1
    rw [z] at e2; cases e2
    exact ⟨a, t', u', q, k₃ _ _ (ne92 _ _ _ _ _ _ o) (neL _ _ _ _ _ _ o) o⟩
  have oS₂ := k₂ _ _ stL oS
  have oS₃ := k₃ _ _ (ne92 _ _ _ _ _ _ oS₂) (neL _ _ _ _ _ _ oS₂) oS₂
  refine law_d (R := fun v s' => R (.ok (.ret v)) s') hg T B₃ hh (by show A.depth + 1 + 40 < recursionLimit; omega) (by simp only [units_deeper]; omega) ns₃ hBL ((mk₃ _ (by decide)).trans ((mk _ (by decide) (by decide) (by decide)).trans mE)) ((mk₃ _ (by decide)).trans mP) ((mk₃ _ (by decide)).trans mD) ((mk₃ _ (by decide)).trans ((mk _ (by decide) (by decide) (by decide)).trans mS)) b1.1 b1.2 b2 lD₃ dD₃ oS₃ fun h₄ tk₄ k₄ => ?_
  have up4 : ∀ b o, b ≠ 92 → s.heap.get? b = some o → h₄.get? b = some o := fun b o q e => k₄ _ _ (k₃ b o q (nL b o e) (up2 _ _ e))
  have K₄ : Blw A B [] h₄ := K.move (fun b hb => by cases hb) fun b o e => up4 b o (ne_of_get e hB92) (K.stays _ _ e)
  have KL₄ : Blw (A.deeper (callEnv fd L 152)) B [callEnv fd L 152] h₄ := K₄.deep (ns₃.keeps k₄) hBL rfl hk
  refine law_e (R := fun v s' => R (.ok (.ret v)) s') (s := { s₃ with heap := h₄, toks := tk₄ }) hg T KL₄ hh (by show A.depth + 1 + 40 < recursionLimit; omega) (by simp only [units_deeper]; omega) (ns₃.keeps k₄) ((mk₃ _ (by decide)).trans ((mk _ (by decide) (by decide) (by decide)).trans mA)) ((mk₃ _ (by decide)).trans ((mk _ (by decide) (by decide) (by decide)).trans mN)) ((mk₃ _ (by decide)).trans ((mk _ (by decide) (by decide) (by decide)).trans mX)) a1 a2 a3 fun s₅ k₅ os₅ gk₅ => ?_
  dsimp only at k₅ os₅ gk₅
  refine h s₅ (fun b o q e => k₅ b o (nL b o e) (up4 b o q e)) (os₅.trans os₃) (gk₃.trans gk₅) ?_
  obtain ⟨ps, e⟩ := x92
  exact ⟨ps, k₅ _ _ (nL _ _ hTab) (k₄ _ _ e)⟩
end
end Mine
end
open PySem PySem.W PySem.W.X PyProof.Rows PySem.Calls
set_option linter.unusedVariables false
namespace Mine
theorem nsHide {h : Heap} {a b : Addr} {m : Str → Option Value} {ps : Array Value} (e : h.get? b = some (tab ps)) (n : h.Ns a m) : (h.hide b).Ns a m := by
  obtain ⟨o, es, ep, ho, hd, r⟩ := n
  refine ⟨o, es, ep, (Heap.hide_ne h fun q => ?_).trans ho, hd, r⟩
  rw [q, e] at ho; cases ho; cases hd
theorem kHide {w : World} {h : Heap} (X : (KK w).In h) : (KK w).In (h.hide 92) := fun a o e => (Heap.hide_ne h fun q => by rw [q] at e; cases e.symm.trans (rfl : (KK w).lookup 92 = none)).trans (X a o e)
theorem txtHide {w : World} {mg mb : Str → Option Value} {h : Heap} {ps : Array Value} (e : h.get? 92 = some (tab ps)) (X : (KK w).In h) (t : TopRead hd.view_39 (looseW hd.view_39 LL) mg mb h) : Txt w mg mb (h.hide 92) :=
  ⟨kHide X, nsHide e t.g, nsHide e t.b, let ⟨mc, n, r⟩ := t.nolimit; ⟨mc, nsHide e n, r⟩, t.builtins, t.free⟩
theorem bmodHide {h : Heap} {g bm : Addr} {mg : Str → Option Value} {ob : Obj} {ps : Array Value} (e : h.get? 92 = some (tab ps)) (M : BMod h g mg bm ob) : BMod (h.hide 92) g mg bm ob :=
  ⟨nsHide e M.ns, M.name, M.ne, (Heap.hide_ne h fun q => by have := M.obj; rw [q, e] at this; cases this; have := M.cls; cases this).trans M.obj, M.cls, M.dict, M.data⟩
theorem oldTab {w : World} {h h' : Heap} {ps : Array Value} (X : (KK w).In h) (e : h.get? 92 = some (tab #[])) (k : ∀ b o, b ≠ 92 → h.get? b = some o → h'.get? b = some o) (e' : h'.get? 92 = some (tab ps)) : OldK h h' := by
  refine ⟨fun b o q => ?_, fun b o q => ?_⟩
  · by_cases hb : b = 92
    · subst hb
      rw [e] at q
      cases q
      obtain ⟨o, vs, h1, h2, h3, h4⟩ := (code96 X e trivial).2.1
      refine .inr (.inl ⟨⟨96, o, vs, h1, h2, h3, h4⟩, rfl, #[], ps, rfl, ?_⟩)
      rw [e', Array.empty_append]
    · exact .inl (k b o hb q)
  · by_cases hb : b = 92
    · exact ⟨_, hb ▸ e'⟩
    · exact ⟨o, k b o hb q⟩
end Mine
set_option maxRecDepth 100000 in
set_option maxHeartbeats 8000000 in
theorem PySem.Challenge.cw_bb6042_01_holds : PySem.Challenge.rw_bb6042_01.Holds := by
  refine Mine.hd ?_
  intro w s₀ s₁ mg mb G Y fa o pm cd doc dV kV ho hd hcd hD hmg hg args vals as hpre hlay hrd hwl hlo
  have KS : (Mine.KK w).In s₁.heap := kIn_of Y
  refine Ground.open G ?_
  intro T B D TE TW
  have T92 : s₁.heap.get? 92 = some (Mine.tab #[]) := by
    obtain ⟨c, P, hc, hb⟩ := based_of_top T (name := Str.ofString "_tzolkin_count") rfl (mg_of KS T.g (rfl : nsIn (Mine.KK w) mainGlobals (Str.ofString "_tzolkin_count") = some (some (.ref 97)))) (KS 97 _ rfl) rfl
    obtain ⟨⟨q, vs, h1, h2, h3, h4⟩, h5⟩ := hb.tab
    cases hc
    rw [KS 96 _ rfl] at h1
    cases h1
    cases h3
    cases h4
    exact h5
  have hfa : fa = 152 := by
    have e := mg_of KS T.g (rfl : nsIn (Mine.KK w) mainGlobals (Str.ofString "law") = some (some (.ref 152)))
    have e' := Option.some.inj (hmg.symm.trans e)
    exact Value.ref.inj e'
  subst hfa
  obtain ⟨bm, ob, M⟩ := bmod_of_top T
  wrow_args hpre hlay hrd hwl hlo
  rename_i ns hs1 hs2 hs3 hs4 hs5 as1 as2 S vs as3 hl hs6 hs7 hs8 hI hs9 hn hs10
  have K : Mine.Blw callerA (s₁.heap.hide 92) [] s₁.heap := ⟨rfl, fun _ _ e => Heap.of_hide e, trivial⟩
  refine wpAny_call ?_
  refine Mine.law_spec (Mine.txtHide T92 KS (topRead_of T)) K (Mine.bmodHide T92 M) rfl (by decide) (by decide) T92 (Heap.hide_self ..) hl hI (by omega) fun s' k os gk x92 => ?_
  obtain ⟨ps, e92⟩ := x92
  exact ⟨.inl ⟨_, _, [], rfl, fun _ => rfl, ReadsW.bool true, by first | rfl | wrow_post, fun _ => ⟨List.nodup_nil, fun _ hm => (nomatch hm)⟩⟩, Mine.oldTab KS T92 k e92, os, gk.2 (AllBare.of_eq hg)⟩
