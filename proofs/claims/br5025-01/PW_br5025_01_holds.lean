import PyProof.Rows.All
import Wide.All
import OpenK.AllK
import Wide.FinOn
import PySem.Challenge.RW_br5025_01
set_option Elab.async false
set_option maxRecDepth 100000
set_option linter.all false
set_option maxHeartbeats 8000000
section
open PySem PySem.W PySem.W.X PyProof.Rows
local macro_rules | `(tactic| k_head) => `(tactic| x_head)
namespace Mine
open_top hd for PySem.Challenge.rw_br5025_01
end Mine
end
open PySem PySem.W PySem.W.X PySem.Calls PyProof.Rows
set_option maxHeartbeats 4000000
namespace Mine
/-- the three tables of inner code that the law's own calls grow -/
def grows : List Addr := [101, 158, 251]
noncomputable def K1 (P : Params) : Frag := (hd.heap_39 P).filter fun p => !grows.contains p.1
abbrev pg : Program := PySem.Challenge.pw_br5025_01
abbrev Top (w : World) (h : Heap) : Prop := (K1 w.params).In h
structure AOk (A : Around) (n : Nat) : Prop where
  hd : A.handled = none
  dp : A.depth + n ≤ 600
  un : A.units + 8 * n ≤ 400
theorem AOk.deeper {A : Around} {n : Nat} (a : AOk A (n + 1)) (env : Env) : AOk (A.deeper env) n := ⟨a.hd, by show A.depth + 1 + n ≤ 600; have := a.dp; omega, by show A.units + 3 + 8 * n ≤ 400; have := a.un; omega⟩
theorem AOk.in1 {A : Around} {n : Nat} (a : AOk A (n + 1)) : AOk A.in1 n := ⟨a.hd, by show A.depth + n ≤ 600; have := a.dp; omega, by show A.units + 1 + 8 * n ≤ 400; have := a.un; omega⟩
theorem AOk.less {A : Around} {n k : Nat} (a : AOk A n) (h : k ≤ n) : AOk A k := ⟨a.hd, by have := a.dp; omega, by have := a.un; omega⟩
theorem AOk.room {A : Around} {n : Nat} (a : AOk A n) : A.depth < recursionLimit := by have := a.dp; show A.depth < 1000; omega
abbrev AX : Around := { handled := none, depth := 600, frames := none, guards := none, units := 400 }
theorem in_AX {Γ : Ctx} {A : Around} {n : Nat} (a : AOk A n) (h : Γ.In A) : Γ.In AX := by
  refine ⟨h.1.trans a.hd, ?_, fun l e => (nomatch e), fun l e => (nomatch e), ?_⟩
  · have := h.2.1; have := a.dp; show _ ≤ 600; omega
  · have := h.2.2.2.2; have := a.un; show _ ≤ 400; omega
theorem up {α : Type} {M : Model} {A : Around} {n : Nat} {t : Sem α} {Q : α → Shared → Prop} {E : Value → Shared → Prop} {s : Shared} (a : AOk A n) (h : wpAny M AX t Q E s) : wpAny M A t Q E s :=
  fun Γ p hΓ => h Γ p (in_AX a hΓ)
def Keeps (h h' : Heap) : Prop := ∀ b o, h.get? b = some o → h'.get? b = some o
theorem Keeps.refl {h : Heap} : Keeps h h := fun _ _ e => e
theorem Keeps.trans {a b c : Heap} (x : Keeps a b) (y : Keeps b c) : Keeps a c := fun _ _ e => y _ _ (x _ _ e)
theorem Keeps.top {w : World} {h h' : Heap} (k : Keeps h h') (X : Top w h) : Top w h' := Frag.In.keeps X k
theorem keeps_of_mem {h h' : Heap} {news : List (Addr × Obj)} (D : Mem h h' [] news) : Keeps h h' := fun b o e => D.old b o e (by rw [show away ([] : List (Addr × Obj)) b = true from rfl, Bool.or_true])
theorem News.kept {h₀ h h' : Heap} {L : Addr} {news : List (Addr × Obj)} (N : News h₀ L h news) (k : Keeps h h') : News h₀ L h' news := fun p hp => ⟨k _ _ (N p hp).1, (N p hp).2⟩
theorem Fr.kept {h₀ h h' : Heap} {L : Addr} {m : Str → Option Value} (F : Fr h₀ L h m) (k : Keeps h h') : Fr h₀ L h' m := F.keeps k
theorem ns2 (P : Params) : (K1 P).lookup 2 = some ⟨.none, none, .dict #[] 0, #[]⟩ := by kernel_rfl
theorem noLimit {w : World} {h : Heap} (X : Top w h) : h.NoLimit :=
  ⟨fun _ => none, ⟨_, _, _, X 2 _ (ns2 w.params), rfl, fun e he => (by simp at he), fun _ => rfl⟩, rfl⟩
/-- what a def's body hands back -/
def RetQ (Q : Value → Shared → Prop) : Flow → Shared → Prop := fun fl s => Q (match fl with | .ret v => v | _ => .none) s
theorem retQ {Q : Value → Shared → Prop} {v : Value} {s : Shared} (h : Q v s) : RetQ Q (.ret v) s := h
theorem retQ_none {Q : Value → Shared → Prop} {s : Shared} (h : Q .none s) : RetQ Q .next s := h
/-- the function object at an address of the top -/
structure FnAt (f : Addr) (fd : FuncData) (body : List Stmt) : Prop where
  at' : ∀ P, (K1 P).lookup f = some ⟨.type "function", none, .func fd, #[]⟩
  body : fd.body = .stmts body
  code : ∀ P, codeIn (K1 P) fd.code fd.qualname = true
  keep : ∀ P, keepIn (K1 P) (.ref f) = true
  nco : fd.scope.isCoroutine = false
  kind : fd.scope.kind = .function
  env : ∀ L, callEnv fd L f = envX fd.qualname fd.scope L f fd.code []
section
variable {w : World} {A : Around} {n : Nat} {E : Value → Shared → Prop} {Q : Value → Shared → Prop} {h : Heap} {g : Array GenState} {d : Drawn} {t : Nat} {os : OsState}
theorem call_fn {f : Addr} {fd : FuncData} {body : List Stmt} {vals : List Value} {binds : List (Str × Value)} (hA : AOk A (n + 2)) (X : Top w h) (FA : FnAt f fd body)
    (hbind : bindArgs fd ⟨vals, []⟩ = pure binds) (hcell : ∀ x ∈ fd.scope.names, x.2 ≠ .cell) (hgen : fd.scope.isGenerator = false) (hloc : ∀ x ∈ binds, fd.scope.names.lookup x.1 = some .local)
    (k : ∀ h₁ t₁ L, Fr h L h₁ (fun x => binds.reverse.lookup x) → News h L h₁ [] → AOk (A.deeper (envX fd.qualname fd.scope L f fd.code [])) n →
      wpAny (model pg w) (A.deeper (envX fd.qualname fd.scope L f fd.code [])) (execs body (envX fd.qualname fd.scope L f fd.code [])) (RetQ Q) (fun _ _ => False) ⟨h₁, g, d, t₁, os⟩) :
    wpAny (model pg w) A (call (.ref f) vals) Q E ⟨h, g, d, t, os⟩ := by
  refine wpAny_call ?_
  refine codeAny_call_def (binds := binds) hA.room (X f _ (FA.at' w.params)) rfl (noLimit X) (codeRec_of X (FA.code w.params)) FA.body (BindsTo.of_eq hbind) hcell hloc ?_ FA.nco hgen FA.kind
  intro h₀ hns hk
  rw [FA.env]
  refine wpAny_mono (k h₀ _ h.objs.size ⟨hns, hk, Nat.le_refl _⟩ News.nil ((hA.less (by omega)).deeper _)) (fun fl s' q => q) (fun _ _ q => q.elim)
end
section
variable {M : Model} {A : Around} {E : Value → Shared → Prop} {env : Env} {s : Shared}
def Then (M : Model) (A : Around) (E : Value → Shared → Prop) (env : Env) (rest : List Stmt) (Q : Flow → Shared → Prop) : Flow → Shared → Prop := fun f s => match f with
  | .next => wpAny M A (execs rest env) Q E s
  | f => Q f s
def Br (M : Model) (A : Around) (E : Value → Shared → Prop) (env : Env) (a b : List Stmt) (Q : Flow → Shared → Prop) : Bool → Shared → Prop := fun c s => match c with
  | true => wpAny M A (execs a env) Q E s
  | false => wpAny M A (execs b env) Q E s
theorem s_nil {Q : Flow → Shared → Prop} (h : Q .next s) : wpAny M A (execs [] env) Q E s := wpAny_execs_nil h
theorem then_next {rest : List Stmt} {Q : Flow → Shared → Prop} (h : wpAny M A (execs rest env) Q E s) : Then M A E env rest Q .next s := h
theorem then_ret {rest : List Stmt} {Q : Flow → Shared → Prop} {v : Value} (h : Q (.ret v) s) : Then M A E env rest Q (.ret v) s := h
theorem then_brk {rest : List Stmt} {Q : Flow → Shared → Prop} (h : Q .brk s) : Then M A E env rest Q .brk s := h
theorem then_cont {rest : List Stmt} {Q : Flow → Shared → Prop} (h : Q .cont s) : Then M A E env rest Q .cont s := h
theorem s_cons {st : Stmt} {rest : List Stmt} {Q : Flow → Shared → Prop} (h : wpAny M A (exec st env) (Then M A E env rest Q) E s) : wpAny M A (execs (st :: rest) env) Q E s :=
  wpAny_execs_cons (wpAny_mono h (fun f s' q => by cases f <;> exact q) fun _ _ q => q)
theorem s_if {test : PySem.Expr} {a b : List Stmt} {pos : Pos} {Q : Flow → Shared → Prop} (h : wpAny M A (isTrue test env (eval test env)) (Br M A E env a b Q) E s) : wpAny M A (exec (.If test a b pos) env) Q E s :=
  wpAny_If (wpAny_mono h (fun c s' q => by cases c <;> exact q) fun _ _ q => q)
theorem br_t {a b : List Stmt} {Q : Flow → Shared → Prop} (h : wpAny M A (execs a env) Q E s) : Br M A E env a b Q true s := h
theorem br_f {a b : List Stmt} {Q : Flow → Shared → Prop} (h : wpAny M A (execs b env) Q E s) : Br M A E env a b Q false s := h
theorem br_d {a b : List Stmt} {Q : Flow → Shared → Prop} {c : Bool} (h1 : c = true → wpAny M A (execs a env) Q E s) (h2 : c = false → wpAny M A (execs b env) Q E s) : Br M A E env a b Q c s := by
  cases c with
  | true => exact h1 rfl
  | false => exact h2 rfl
end
section
variable {w : World} {A : Around} {n : Nat} {E : Value → Shared → Prop} {h h₀ : Heap} {g : Array GenState} {d : Drawn} {t : Nat} {os : OsState} {env : Env} {m : Str → Option Value} {news : List (Addr × Obj)} {M : Model}
theorem nL {x : Str} {pos : Pos} {v : Value} {Q : Value → Shared → Prop} (F : Fr h₀ env.locals h m) (hv : m x = some v) (hq : Q v ⟨h, g, d, t, os⟩)
    (hk : env.scope.kind = .function := by rfl) (hl : env.kindOf x = some .local := by rfl) (hd : (x == ("__debug__" : Str)) = false := by decide) :
    wpAny M A (eval (.Name x pos) env) Q E ⟨h, g, d, t, os⟩ := wpAny_Name (wpAny_loadName_local hk hl F.ns hv hq) hd
theorem ldL {x : Str} {v : Value} {Q : Value → Shared → Prop} (F : Fr h₀ env.locals h m) (hv : m x = some v) (hq : Q v ⟨h, g, d, t, os⟩)
    (hk : env.scope.kind = .function := by rfl) (hl : env.kindOf x = some .local := by rfl) :
    wpAny M A (loadName env x) Q E ⟨h, g, d, t, os⟩ := wpAny_loadName_local hk hl F.ns hv hq
theorem stL {x : Str} {v : Value} {Q : Unit → Shared → Prop} (F : Fr h₀ env.locals h m) (N : News h₀ env.locals h news)
    (k : ∀ h', Fr h₀ env.locals h' (fun y => if y = x then some v else m y) → News h₀ env.locals h' news → Q () ⟨h', g, d, t + 1, os⟩)
    (hk : env.scope.kind = .function := by rfl) (hl : env.kindOf x = some .local := by rfl) : wpAny M A (storeName env x v) Q E ⟨h, g, d, t, os⟩ :=
  wpAny_storeName_local hl F.ns (fun h' hn hs => k h' (F.set hn hs) (N.set hs)) (by rw [hk]; rfl)
/-- a name of the top -/
def GlobIs (x : Str) (v : Value) : Prop := ∀ P, (nsIn (K1 P) 3 x = some (some v)) ∨ (nsIn (K1 P) 3 x = some none ∧ nsIn (K1 P) 0 x = some (some v))
theorem nG {x : Str} {pos : Pos} {v : Value} {Q : Value → Shared → Prop} (gl : GlobIs x v) (X : Top w h) (hq : Q v ⟨h, g, d, t, os⟩)
    (hk : env.scope.kind = .function := by rfl) (hl : env.kindOf x = some .globalImplicit := by rfl) (hg : env.globals = 3 := by rfl) (hb : env.builtins = 0 := by rfl) (hd : (x == ("__debug__" : Str)) = false := by decide) :
    wpAny (model pg w) A (eval (.Name x pos) env) Q E ⟨h, g, d, t, os⟩ := by
  refine Name_function_global hk hl ?_ hd
  unfold loadGlobal
  rw [hg, hb]
  rcases gl w.params with e | ⟨e, e'⟩
  · exact wpAny_bind ((looks_nsIn (M := model pg w) X e).here (wpAny_pure hq))
  · refine wpAny_bind ((looks_nsIn (M := model pg w) X e).here ?_)
    dsimp only
    refine wpAny_bind ((looks_nsIn (M := model pg w) X e').here ?_)
    dsimp only
    exact wpAny_pure hq
theorem top_of {w : World} {L : Addr} (X : Top w h₀) (F : Fr h₀ L h m) : Top w h := Frag.In.keeps X F.keep
theorem e_int {i : Int} {k : Nat} {pos : Pos} {Q : Value → Shared → Prop} (hq : Q (.int i t) ⟨h, g, d, t + 1, os⟩) : wpAny M A (eval (.Constant (.int i) k pos) env) Q E ⟨h, g, d, t, os⟩ := wpAny_Constant_int hq
theorem e_str {x : Str} {k : Nat} {pos : Pos} {Q : Value → Shared → Prop} (hq : Q (.str x t) ⟨h, g, d, t + 1, os⟩) : wpAny M A (eval (.Constant (.str x) k pos) env) Q E ⟨h, g, d, t, os⟩ := wpAny_Constant_str hq
end
def fd35S : { f : FuncData // ∀ P, (K1 P).lookup 35 = some ⟨.type "function", none, .func f, #[]⟩ } := ⟨_, fun P => by rfl⟩
end Mine
set_option maxHeartbeats 1000000
namespace Mine
section
section
/-- no generator rests inside a try -/
def Bare (g : Array GenState) : Prop := ∀ y ∈ g, y.bare = true
abbrev BG := { g : Array GenState // Bare g }
theorem Bare.push {g : Array GenState} (x : Bare g) (c : Code) : Bare (g.push (.fresh c)) := fun y hy => by
  rcases Array.mem_push.mp hy with h | rfl
  · exact x y h
  · rfl
theorem Bare.set {g : Array GenState} (x : Bare g) (i : Nat) {y : GenState} (hy : y.bare = true) : Bare (g.setIfInBounds i y) := fun z hz => by
  obtain ⟨j, hj, rfl⟩ := Array.mem_iff_getElem.mp hz
  have hj' : j < g.size := by rw [Array.size_setIfInBounds] at hj; exact hj
  rw [Array.getElem_setIfInBounds hj']
  split
  · exact hy
  · exact x _ (Array.getElem_mem _)
/-- what a step may turn: the objects wr, the generators gr -/
structure Mv (wr : List Addr) (gr : List Nat) (s s' : Shared) : Prop where
  keep : ∀ b o, b ∉ wr → s.heap.get? b = some o → s'.heap.get? b = some o
  live : ∀ b o, s.heap.get? b = some o → ∃ o', s'.heap.get? b = some o'
  gsz : s'.gens.size = s.gens.size
  gens : ∀ j, j ∉ gr → s'.gens[j]? = s.gens[j]?
  drawn : s'.drawn = s.drawn
  os : s'.os = s.os
  bare : Bare s.gens → Bare s'.gens
theorem Mv.refl {wr : List Addr} {gr : List Nat} {s : Shared} : Mv wr gr s s := ⟨fun _ _ _ e => e, fun _ o e => ⟨o, e⟩, rfl, fun _ _ => rfl, rfl, rfl, fun x => x⟩
theorem Mv.trans {wr : List Addr} {gr : List Nat} {a b c : Shared} (x : Mv wr gr a b) (y : Mv wr gr b c) : Mv wr gr a c :=
  ⟨fun _ _ n e => y.keep _ _ n (x.keep _ _ n e), fun _ _ e => let ⟨_, q⟩ := x.live _ _ e; y.live _ _ q, y.gsz.trans x.gsz, fun j n => (y.gens j n).trans (x.gens j n), y.drawn.trans x.drawn, y.os.trans x.os, fun z => y.bare (x.bare z)⟩
theorem Mv.mono {wr wr' : List Addr} {gr gr' : List Nat} {s s' : Shared} (x : Mv wr gr s s') (h : ∀ b ∈ wr, b ∈ wr') (h' : ∀ b ∈ gr, b ∈ gr') : Mv wr' gr' s s' :=
  ⟨fun b o n e => x.keep b o (fun q => n (h b q)) e, x.live, x.gsz, fun j n => x.gens j (fun q => n (h' j q)), x.drawn, x.os, x.bare⟩
theorem Mv.of_same {wr : List Addr} {gr : List Nat} {s : Shared} {h' : Heap} {a : Addr} {oa : Obj} (hs : Heap.SameBut a s.heap h') (ha : a ∈ wr) (hl : h'.get? a = some oa) : Mv wr gr s { s with heap := h' } :=
  ⟨fun b o n e => hs.extBut b o (fun q => n (q ▸ ha)) e, fun b o e => if q : b = a then ⟨oa, q ▸ hl⟩ else ⟨o, hs.extBut b o q e⟩, rfl, fun _ _ => rfl, rfl, rfl, fun x => x⟩
theorem Mv.of_keeps {wr : List Addr} {gr : List Nat} {s : Shared} {h' : Heap} {t : Nat} (k : Keeps s.heap h') : Mv wr gr s { s with heap := h', toks := t } :=
  ⟨fun b o _ e => k b o e, fun b o e => ⟨o, k b o e⟩, rfl, fun _ _ => rfl, rfl, rfl, fun x => x⟩
theorem Mv.tok {wr : List Addr} {gr : List Nat} {s s' : Shared} (m : Mv wr gr s s') (t : Nat) : Mv wr gr s { s' with toks := t } := ⟨m.keep, m.live, m.gsz, m.gens, m.drawn, m.os, m.bare⟩
def IsStop (s : Shared) (e : Addr) : Prop := ∃ o, s.heap.get? e = some o ∧ o.cls = .type "StopIteration"
structure It (w : World) (c : Nat) (b : Builtin) (T id : String) (I : Addr) (fp wr : List Addr) (gr : List Nat) (n : Nat) (P : Nat → Value → Prop) (St : Nat → Shared → Prop) : Prop where
  sub : ∀ b ∈ wr, b ∈ fp
  slot : Slot T "__next__" id
  entry : entryFor table id = some b
  args : argsOk id ⟨[.ref I], []⟩
  live : ∀ i s, St i s → ∀ b ∈ wr, ∃ o, s.heap.get? b = some o
  ty : ∀ i s, St i s → s.TypeIs (.ref I) T
  frame : ∀ i s s', St i s → (∀ b ∈ fp, ∀ o, s.heap.get? b = some o → s'.heap.get? b = some o) → (∀ j ∈ gr, s'.gens[j]? = s.gens[j]?) → St i s'
  item : ∀ A, AOk A c → ∀ i s (Q : Fin → Shared → Prop) E, i < n → St i s → (∀ v s', P i v → St (i + 1) s' → Mv wr gr s s' → Q (.done (.ret v)) s') → wpAny (model pg w) A (b ⟨[.ref I], []⟩) Q E s
  done : ∀ A, AOk A c → ∀ s (Q : Fin → Shared → Prop) E, St n s → (∀ e s', IsStop s' e → Mv wr gr s s' → E (.ref e) s') → wpAny (model pg w) A (b ⟨[.ref I], []⟩) Q E s
section
variable {w : World} {A : Around} {c : Nat} {b : Builtin} {T id : String} {I : Addr} {fp wr : List Addr} {gr : List Nat} {n : Nat} {P : Nat → Value → Prop} {St : Nat → Shared → Prop} {s : Shared} {i : Nat} {E : Value → Shared → Prop}
theorem It.sp_item (W : It w c b T id I fp wr gr n P St) (hA : AOk A (c + 1)) {Q : Option Value → Shared → Prop} (hi : i < n) (hs : St i s) (hQ : ∀ v s', P i v → St (i + 1) s' → Mv wr gr s s' → Q (some v) s') :
    wpAny (model pg w) A (callSpecial? (.ref I) "__next__") Q E s :=
  wpAny_callSpecial?_slot (W.ty _ _ hs) W.slot (wpAny_call_entry W.slot (W.ty _ _ hs) W.entry (W.item _ hA.in1 i s _ _ hi hs fun v s' p t m => ⟨v, rfl, hQ v s' p t m⟩) W.args)
theorem It.sp_done (W : It w c b T id I fp wr gr n P St) (hA : AOk A (c + 1)) {Q : Option Value → Shared → Prop} (hs : St n s) (hE : ∀ e s', IsStop s' e → Mv wr gr s s' → E (.ref e) s') :
    wpAny (model pg w) A (callSpecial? (.ref I) "__next__") Q E s :=
  wpAny_callSpecial?_slot (W.ty _ _ hs) W.slot (wpAny_call_entry W.slot (W.ty _ _ hs) W.entry (W.done _ hA.in1 s _ _ hs hE) W.args)
theorem It.py_item (W : It w c b T id I fp wr gr n P St) (hA : AOk A (c + 1)) {Q : Option Value → Shared → Prop} (hi : i < n) (hs : St i s) (hQ : ∀ v s', P i v → St (i + 1) s' → Mv wr gr s s' → Q (some v) s') :
    wpAny (model pg w) A (pyNext (.ref I)) Q E s := by
  unfold pyNext
  exact wpAny_bind (wpAny_attempt (W.sp_item hA hi hs fun v s' p t m => wpAny_pure (hQ v s' p t m)))
theorem It.py_done (W : It w c b T id I fp wr gr n P St) (hA : AOk A (c + 1)) {Q : Option Value → Shared → Prop} (hs : St n s) (hQ : ∀ s', Mv wr gr s s' → Q none s') :
    wpAny (model pg w) A (pyNext (.ref I)) Q E s := by
  unfold pyNext
  refine wpAny_bind (wpAny_attempt (W.sp_done hA hs fun e s' x m => ?_))
  obtain ⟨o, ho, hc⟩ := x
  refine wpAny_bind (wpAny_isInstance (T := "StopIteration") (b := true) ⟨o, ho, hc⟩ isSubtype_stop ?_)
  exact wpAny_pure (hQ _ m)
theorem It.nx_item (W : It w c b T id I fp wr gr n P St) (hA : AOk A (c + 1)) {Q : Value → Shared → Prop} (hi : i < n) (hs : St i s) (hQ : ∀ v s', P i v → St (i + 1) s' → Mv wr gr s s' → Q v s') :
    wpAny (model pg w) A (Builtin.SmallTypes.nextOf (.ref I)) Q E s := by
  unfold Builtin.SmallTypes.nextOf
  exact wpAny_bind (W.sp_item hA hi hs fun v s' p t m => wpAny_pure (hQ v s' p t m))
theorem It.nx_done (W : It w c b T id I fp wr gr n P St) (hA : AOk A (c + 1)) {Q : Value → Shared → Prop} (hs : St n s) (hE : ∀ e s', IsStop s' e → Mv wr gr s s' → E (.ref e) s') :
    wpAny (model pg w) A (Builtin.SmallTypes.nextOf (.ref I)) Q E s := by
  unfold Builtin.SmallTypes.nextOf
  exact wpAny_bind (W.sp_done hA hs hE)
end
/-- raising a fresh StopIteration -/
theorem stop_here {w : World} {A : Around} {n : Nat} (hA : AOk A n) {α : Type} {Q : α → Shared → Prop} {E : Value → Shared → Prop} {s : Shared}
    (hE : ∀ e h', IsStop { s with heap := h' } e → Keeps s.heap h' → E (.ref e) { s with heap := h' }) :
    wpAny (model pg w) A (Builtin.SmallTypes.stopIteration : Sem α) Q E s := by
  unfold Builtin.SmallTypes.stopIteration
  refine wpAny_bind ?_
  simp only [newExc, newTuple]
  refine wpAny_bind (wpAny_newObj_type ?_ (by size_fits))
  refine wpAny_bind (m := firstArgMember _ _) (wpAny_of_eq (a := Value.none) (by first | rfl | (simp only [firstArgMember]; rfl)) ?_)
  refine wpAny_newObj_type ?_ (by size_fits)
  simp only [raiseNew]
  refine wpAny_bind (wpAny_handled ?_)
  rw [hA.hd]
  refine wpAny_bind (wpAny_pure (wpAny_throw ?_))
  exact hE _ _ ⟨_, Heap.get?_push_size _ rfl, rfl⟩ (fun b o e => Heap.get?_push_of_some _ (Heap.get?_push_of_some _ e))
/-- the bytes iterator -/
theorem It.bytes0 {w : World} (I : Addr) (b : Array UInt8) (t : Tok) :
    It w 1 Builtin.«bytes_iterator.__next__» "bytes_iterator" "bytes_iterator.__next__" I [I] [I] [] b.size (fun i v => ∃ c u, b[i]? = some c ∧ v = .int (c.toNat : Int) u) (fun i s => KBw.IsBytesIter s.heap I b t i) where
  sub := fun _ h => h
  slot := KBw.slot_next
  entry := KBw.entry_next
  args := KBw.args_next _
  live := fun i s ⟨o, ho, _⟩ b hb => by simp at hb; exact ⟨o, hb ▸ ho⟩
  ty := fun _ _ h => KBw.iter_typeIs h
  frame := fun i s s' st hk _ => let ⟨o, ho, r⟩ := st; ⟨o, hk I (by simp) o ho, r⟩
  item := fun A hA i s Q E hi hit hQ => by
    obtain ⟨o, ho, hc, hd⟩ := id hit
    have hx : b[i]? = some b[i] := by simp [hi]
    show wpAny _ _ (field (.ref I) 0 >>= _) _ _ s
    refine wpAny_bind (wpAny_field ho hd (x := .bytes b t) rfl ?_)
    show wpAny _ _ (if (Value.bytes b t == Value.none) = true then _ else _) _ _ s
    rw [if_neg (show ¬ ((Value.bytes b t == Value.none) = true) from Bool.false_ne_true)]
    show wpAny _ _ (field (.ref I) 1 >>= _) _ _ s
    refine wpAny_bind (wpAny_field ho hd (x := .int i 0) rfl ?_)
    refine wpAny_bind (wpAny_of_eq (a := b) rfl ?_)
    simp only [Int.toNat_natCast, hx]
    refine wpAny_bind (wpAny_setField ho hd (by simp) (wpAny_bind (wpAny_mkInt (wpAny_pure (hQ _ _ ⟨_, _, hx, rfl⟩ ?_ ?_)))))
    · exact ⟨_, Heap.get?_update_self _ ho (Obj.isFreed_of_fields (Obj.data_mapFields hd _)), (Obj.cls_mapFields ..).trans hc, by rw [Obj.data_mapFields hd]; simp [rawInt]⟩
    · exact (Mv.of_same (Heap.SameBut.update ..) (by simp) (Heap.get?_update_self _ ho (Obj.isFreed_of_fields (Obj.data_mapFields hd _)))).tok _
  done := fun A hA s Q E hit hE => by
    obtain ⟨o, ho, hc, hd⟩ := id hit
    have hx : b[b.size]? = none := by simp
    show wpAny _ _ (field (.ref I) 0 >>= _) _ _ s
    refine wpAny_bind (wpAny_field ho hd (x := .bytes b t) rfl ?_)
    show wpAny _ _ (if (Value.bytes b t == Value.none) = true then _ else _) _ _ s
    rw [if_neg (show ¬ ((Value.bytes b t == Value.none) = true) from Bool.false_ne_true)]
    show wpAny _ _ (field (.ref I) 1 >>= _) _ _ s
    refine wpAny_bind (wpAny_field ho hd (x := .int (b.size : Nat) 0) rfl ?_)
    refine wpAny_bind (wpAny_of_eq (a := b) rfl ?_)
    simp only [Int.toNat_natCast, hx]
    refine wpAny_bind (wpAny_rule (wpAny_bind (wpAny_setField ho hd (by simp) ?_)))
    refine stop_here hA fun e h' x k => hE e _ x ((Mv.of_same (Heap.SameBut.update ..) (by simp) (Heap.get?_update_self _ ho (Obj.isFreed_of_fields (Obj.data_mapFields hd _)))).trans (Mv.of_keeps k))

theorem It.bytes {w : World} (I : Addr) (b : Array UInt8) (t : Tok) (n : Nat) (hn : b.size = n) :
    It w 1 Builtin.«bytes_iterator.__next__» "bytes_iterator" "bytes_iterator.__next__" I [I] [I] [] n (fun i v => ∃ c u, b[i]? = some c ∧ v = .int (c.toNat : Int) u) (fun i s => KBw.IsBytesIter s.heap I b t i) := hn ▸ It.bytes0 I b t
theorem Mv.shape {wr : List Addr} {s s' : Shared} (m : Mv wr [] s s') : s' = ⟨s'.heap, s.gens, s.drawn, s'.toks, s.os⟩ := by
  have e : s'.gens = s.gens := Array.ext_getElem? fun i => m.gens i (by simp)
  have e1 := m.drawn
  have e2 := m.os
  cases s'; cases s; simp only [Shared.mk.injEq] at *; exact ⟨trivial, e, e1, trivial, e2⟩
theorem Mv.shaped {wr : List Addr} {h : Heap} {g : Array GenState} {d : Drawn} {t : Nat} {os : OsState} {s' : Shared} (m : Mv wr [] ⟨h, g, d, t, os⟩ s') : ∃ h' t', s' = ⟨h', g, d, t', os⟩ := ⟨_, _, m.shape⟩
end
section
/-- an iterator that hands out pairs for a target of two -/
structure ItT (w : World) (c : Nat) (b : Builtin) (T id : String) (I : Addr) (fp wr : List Addr) (gr : List Nat) (n : Nat) (P : Nat → Value → Value → Prop) (St : Nat → Shared → Prop) (Mid : Nat → Addr → Shared → Prop) : Prop where
  sub : ∀ b ∈ wr, b ∈ fp
  slot : Slot T "__next__" id
  entry : entryFor table id = some b
  args : argsOk id ⟨[.ref I], []⟩
  live : ∀ i s, St i s → ∀ b ∈ wr, ∃ o, s.heap.get? b = some o
  ty : ∀ i s, St i s → s.TypeIs (.ref I) T
  frame : ∀ i s s', St i s → (∀ b ∈ fp, ∀ o, s.heap.get? b = some o → s'.heap.get? b = some o) → (∀ j ∈ gr, s'.gens[j]? = s.gens[j]?) → St i s'
  item : ∀ A, AOk A c → ∀ i s (Q : Fin → Shared → Prop) E, i < n → St i s → (∀ T x y s', P i x y → IsPair s'.heap T x y → s.heap.get? T = none → Mid i T s' → Mv wr gr s s' → Q (.done (.ret (.ref T))) s') → wpAny (model pg w) A (b ⟨[.ref I], []⟩) Q E s
  go : ∀ (A : Around) (elts : List PySem.Expr) (k : Nat) (pos : Pos) i T s (Q : Unit → Shared → Prop) E, Mid i T s → (∀ s', St (i + 1) s' → Mv wr gr s s' → Q () s') → wpAny (model pg w) A (letOwnedTupleGo (.Tuple elts k pos) (.ref I) (.ref T)) Q E s
  done : ∀ A, AOk A c → ∀ s (Q : Fin → Shared → Prop) E, St n s → (∀ e s', IsStop s' e → Mv wr gr s s' → E (.ref e) s') → wpAny (model pg w) A (b ⟨[.ref I], []⟩) Q E s
section
variable {w : World} {A : Around} {c : Nat} {b : Builtin} {T id : String} {I : Addr} {fp wr : List Addr} {gr : List Nat} {n : Nat} {P : Nat → Value → Value → Prop} {St : Nat → Shared → Prop} {Mid : Nat → Addr → Shared → Prop} {s : Shared} {i : Nat} {E : Value → Shared → Prop}
theorem ItT.py_item (W : ItT w c b T id I fp wr gr n P St Mid) (hA : AOk A (c + 1)) {Q : Option Value → Shared → Prop} (hi : i < n) (hs : St i s)
    (hQ : ∀ T x y s', P i x y → IsPair s'.heap T x y → s.heap.get? T = none → Mid i T s' → Mv wr gr s s' → Q (some (.ref T)) s') : wpAny (model pg w) A (pyNext (.ref I)) Q E s := by
  unfold pyNext
  exact wpAny_bind (wpAny_attempt (wpAny_callSpecial?_slot (W.ty _ _ hs) W.slot (wpAny_call_entry W.slot (W.ty _ _ hs) W.entry
    (W.item _ hA.in1 i s _ _ hi hs fun T x y s' p t f m v => ⟨_, rfl, wpAny_pure (hQ T x y s' p t f m v)⟩) W.args)))
theorem ItT.py_done (W : ItT w c b T id I fp wr gr n P St Mid) (hA : AOk A (c + 1)) {Q : Option Value → Shared → Prop} (hs : St n s) (hQ : ∀ s', Mv wr gr s s' → Q none s') :
    wpAny (model pg w) A (pyNext (.ref I)) Q E s := by
  unfold pyNext
  refine wpAny_bind (wpAny_attempt (wpAny_callSpecial?_slot (W.ty _ _ hs) W.slot (wpAny_call_entry W.slot (W.ty _ _ hs) W.entry (W.done _ hA.in1 s _ _ hs fun e s' x m => ?_) W.args)))
  obtain ⟨o, ho, hc⟩ := x
  refine wpAny_bind (wpAny_isInstance (T := "StopIteration") (b := true) ⟨o, ho, hc⟩ isSubtype_stop ?_)
  exact wpAny_pure (hQ _ m)
end
theorem It.zip {w : World} {c : Nat} {b1 b2 : Builtin} {T1 T2 id1 id2 : String} {i1 i2 z TI TO : Addr} {fp1 fp2 wr1 wr2 : List Addr} {n : Nat} {P1 P2 : Nat → Value → Prop} {S1 S2 : Nat → Shared → Prop}
    (W1 : It w c b1 T1 id1 i1 fp1 wr1 [] n P1 S1) (W2 : It w c b2 T2 id2 i2 fp2 wr2 [] n P2 S2) (z1 : z ∉ fp1) (z2 : z ∉ fp2) (o1 : TO ∉ fp1) (o2 : TO ∉ fp2) (t1 : TI ∉ fp1) (t2 : TI ∉ fp2)
    (zt : TI ≠ z) (zo : TO ≠ z) (to : TI ≠ TO) (d1 : ∀ b ∈ fp1, b ∉ wr2) (d2 : ∀ b ∈ fp2, b ∉ wr1) :
    ItT w (c + 1) Builtin.«zip.__next__» "zip" "zip.__next__" z ([z, TI, TO] ++ fp1 ++ fp2) ([z, TO] ++ wr1 ++ wr2) [] n (fun i x y => P1 i x ∧ P2 i y)
      (fun i s => IsZip s.heap z TI TO .none ∧ IsPair s.heap TI (.ref i1) (.ref i2) ∧ (∃ a b, IsPair s.heap TO a b) ∧ S1 i s ∧ S2 i s)
      (fun i T s => IsZip s.heap z TI TO (rawInt T) ∧ IsPair s.heap TI (.ref i1) (.ref i2) ∧ (∃ a b, IsPair s.heap TO a b) ∧ S1 (i + 1) s ∧ S2 (i + 1) s) where
  sub := fun b hb => by
    simp only [List.mem_append, List.mem_cons, List.not_mem_nil, or_false] at hb ⊢
    rcases hb with ((rfl | rfl) | h) | h
    · simp
    · simp
    · exact .inl (.inr (W1.sub b h))
    · exact .inr (W2.sub b h)
  slot := F.slot_zip_next
  entry := F.entry_zip_next
  args := F.args_zip_next_1 _
  live := fun i s st b hb => by
    obtain ⟨hz, hTI, ⟨a, b', hTO⟩, h1, h2⟩ := st
    simp only [List.mem_append, List.mem_cons, List.not_mem_nil, or_false] at hb
    rcases hb with ((rfl | rfl) | h) | h
    · exact ⟨_, hz⟩
    · exact ⟨_, hTO⟩
    · exact W1.live _ _ h1 b h
    · exact W2.live _ _ h2 b h
  ty := fun i s st => ⟨_, st.1, rfl⟩
  frame := fun i s s' st hk hj => by
    obtain ⟨hz, hTI, ⟨a, b, hTO⟩, h1, h2⟩ := st
    exact ⟨hk z (by simp) _ hz, hk TI (by simp) _ hTI, ⟨a, b, hk TO (by simp) _ hTO⟩, W1.frame _ _ _ h1 (fun b hb => hk b (by simp [hb])) (by simp), W2.frame _ _ _ h2 (fun b hb => hk b (by simp [hb])) (by simp)⟩
  item := fun A hA i s Q E hi st hQ => by
    obtain ⟨hz, hTI, ⟨a, b, hTO⟩, h1, h2⟩ := st
    show wpAny _ _ (field (.ref z) 2 >>= _) _ _ _
    refine wpAny_bind (wpAny_field hz rfl (x := .bool false) rfl ?_)
    show wpAny _ _ (field (.ref z) 3 >>= _) _ _ _
    refine wpAny_bind (wpAny_field hz rfl (x := .ref TI) rfl ?_)
    refine wpAny_bind (wpAny_seqItems hTI rfl ?_)
    show wpAny _ _ (Builtin.SmallTypes.ownedTupleIsFree (.ref z) >>= _) _ _ _
    refine wpAny_bind ?_
    unfold Builtin.SmallTypes.ownedTupleIsFree
    refine wpAny_bind (wpAny_field hz rfl (x := .none) rfl (wpAny_pure ?_))
    simp only [if_true]
    refine wpAny_bind (wpAny_rule ?_)
    refine wpAny_bind (wpAny_field hz rfl (x := .ref TO) rfl ?_)
    refine wpAny_bind (wpAny_setField_rec hz (by simp) fun h₁ hz₁ hs₁ => ?_)
    replace hz₁ : IsZip h₁ z TI TO .ellipsis := hz₁
    have m₁ : Mv ([z, TO] ++ wr1 ++ wr2) [] s { s with heap := h₁ } := Mv.of_same hs₁ (by simp) hz₁
    have h1₁ : S1 i { s with heap := h₁ } := W1.frame _ _ _ h1 (fun b hb o e => hs₁.extBut _ _ (fun q => z1 (q ▸ hb)) e) (by simp)
    have h2₁ : S2 i { s with heap := h₁ } := W2.frame _ _ _ h2 (fun b hb o e => hs₁.extBut _ _ (fun q => z2 (q ▸ hb)) e) (by simp)
    have hTI₁ : IsPair h₁ TI (.ref i1) (.ref i2) := hs₁.extBut _ _ zt hTI
    have hTO₁ : IsPair h₁ TO a b := hs₁.extBut _ _ zo hTO
    clear hz hTI hTO h1 h2 hs₁
    refine wpAny_bind ?_
    simp only [List.zipIdx_cons, List.zipIdx_nil, List.forIn_cons, List.forIn_nil]
    refine wpAny_bind (wpAny_bind (wpAny_onRaise ?_))
    show wpAny _ _ (Builtin.SmallTypes.nextOf (.ref i1) >>= _) _ _ _
    refine wpAny_bind (W1.nx_item hA hi h1₁ fun x s₂ px h1₂ m₂ => wpAny_pure ?_)
    have hz₂ := m₂.keep z _ (fun q => z1 (W1.sub _ q)) hz₁
    have hTI₂ := m₂.keep TI _ (fun q => t1 (W1.sub _ q)) hTI₁
    have hTO₂ : IsPair s₂.heap TO a b := m₂.keep TO _ (fun q => o1 (W1.sub _ q)) hTO₁
    have h2₂ : S2 i s₂ := W2.frame _ _ _ h2₁ (fun b hb o e => m₂.keep _ _ (d2 b hb) e) (by simp)
    replace m₂ := m₁.trans (m₂.mono (wr' := [z, TO] ++ wr1 ++ wr2) (gr' := []) (by intro b hb; simp [hb]) (by simp))
    clear m₁ hz₁ hTI₁ hTO₁ h1₁ h2₁
    refine wpAny_bind (wpAny_seqItems hTO₂ rfl ?_)
    refine wpAny_bind (wpAny_updateSeq_pair hTO₂ fun h₃ hTO₃ hs₃ => ?_)
    replace hTO₃ : IsPair h₃ TO x b := hTO₃
    have m₃ : Mv ([z, TO] ++ wr1 ++ wr2) [] s { s₂ with heap := h₃ } := m₂.trans (Mv.of_same hs₃ (by simp) hTO₃)
    have hz₃ := hs₃.extBut _ _ (Ne.symm zo) hz₂
    have hTI₃ := hs₃.extBut _ _ to hTI₂
    have h1₃ : S1 (i + 1) { s₂ with heap := h₃ } := W1.frame _ _ _ h1₂ (fun b hb o e => hs₃.extBut _ _ (fun q => o1 (q ▸ hb)) e) (by simp)
    have h2₃ : S2 i { s₂ with heap := h₃ } := W2.frame _ _ _ h2₂ (fun b hb o e => hs₃.extBut _ _ (fun q => o2 (q ▸ hb)) e) (by simp)
    clear m₂ hz₂ hTI₂ hTO₂ h1₂ h2₂ hs₃
    refine wpAny_bind (wpAny_letGo (wpAny_pure ?_))
    refine wpAny_bind (wpAny_bind (wpAny_onRaise ?_))
    show wpAny _ _ (Builtin.SmallTypes.nextOf (.ref i2) >>= _) _ _ _
    refine wpAny_bind (W2.nx_item hA hi h2₃ fun y s₄ py h2₄ m₄ => wpAny_pure ?_)
    have hz₄ := m₄.keep z _ (fun q => z2 (W2.sub _ q)) hz₃
    have hTI₄ := m₄.keep TI _ (fun q => t2 (W2.sub _ q)) hTI₃
    have hTO₄ : IsPair s₄.heap TO x b := m₄.keep TO _ (fun q => o2 (W2.sub _ q)) hTO₃
    have h1₄ : S1 (i + 1) s₄ := W1.frame _ _ _ h1₃ (fun b hb o e => m₄.keep _ _ (d1 b hb) e) (by simp)
    replace m₄ := m₃.trans (m₄.mono (wr' := [z, TO] ++ wr1 ++ wr2) (gr' := []) (by intro b hb; simp [hb]) (by simp))
    clear m₃ hz₃ hTI₃ hTO₃ h1₃ h2₃
    refine wpAny_bind (wpAny_seqItems hTO₄ rfl ?_)
    refine wpAny_bind (wpAny_updateSeq_pair hTO₄ fun h₅ hTO₅ hs₅ => ?_)
    replace hTO₅ : IsPair h₅ TO x y := hTO₅
    have m₅ : Mv ([z, TO] ++ wr1 ++ wr2) [] s { s₄ with heap := h₅ } := m₄.trans (Mv.of_same hs₅ (by simp) hTO₅)
    have hz₅ : IsZip h₅ z TI TO .ellipsis := hs₅.extBut _ _ (Ne.symm zo) hz₄
    have hTI₅ : IsPair h₅ TI (.ref i1) (.ref i2) := hs₅.extBut _ _ to hTI₄
    have h1₅ : S1 (i + 1) { s₄ with heap := h₅ } := W1.frame _ _ _ h1₄ (fun b hb o e => hs₅.extBut _ _ (fun q => o1 (q ▸ hb)) e) (by simp)
    have h2₅ : S2 (i + 1) { s₄ with heap := h₅ } := W2.frame _ _ _ h2₄ (fun b hb o e => hs₅.extBut _ _ (fun q => o2 (q ▸ hb)) e) (by simp)
    clear m₄ hz₄ hTI₄ hTO₄ h1₄ h2₄ hs₅
    refine wpAny_bind (wpAny_letGo (wpAny_pure (wpAny_pure ?_)))
    refine wpAny_bind (wpAny_seqItems hTO₅ rfl ?_)
    refine wpAny_bind (wpAny_newTuple ?_)
    show wpAny _ _ (Builtin.SmallTypes.ownedTupleHandOut (.ref z) (.ref h₅.objs.size) >>= _) _ _ _
    refine wpAny_bind ?_
    unfold Builtin.SmallTypes.ownedTupleHandOut
    have hz₆ : IsZip (h₅.push { cls := .type "tuple", data := .seq #[x, y] }) z TI TO .ellipsis := Heap.get?_push_of_some _ hz₅
    refine wpAny_bind (wpAny_setField_rec hz₆ (by simp) fun h₇ hz₇ hs₇ => ?_)
    replace hz₇ : IsZip h₇ z TI TO (rawInt h₅.objs.size) := hz₇
    refine wpAny_setField_rec hz₇ (by simp) fun h₈ hz₈ hs₈ => ?_
    replace hz₈ : IsZip h₈ z TI TO (rawInt h₅.objs.size) := hz₈
    have up : ∀ c o, c ≠ z → h₅.get? c = some o → h₈.get? c = some o := fun c o c1 e => hs₈.extBut _ _ c1 (hs₇.extBut _ _ c1 (Heap.get?_push_of_some _ e))
    have zlt : z < h₅.objs.size := Heap.lt_size hz₅
    have hT₈ : IsPair h₈ h₅.objs.size x y := hs₈.extBut _ _ (Nat.ne_of_gt zlt) (hs₇.extBut _ _ (Nat.ne_of_gt zlt) (Heap.get?_push_size _ rfl))
    refine wpAny_pure (hQ h₅.objs.size x y _ ⟨px, py⟩ hT₈ ?_ ⟨hz₈, up _ _ zt hTI₅, ⟨_, _, up _ _ zo hTO₅⟩, ?_, ?_⟩ (m₅.trans ⟨fun b o n e => up b o (fun q => n (by simp [q])) e, fun b o e => if q : b = z then ⟨_, q ▸ hz₈⟩ else ⟨o, up b o q e⟩, rfl, fun _ _ => rfl, rfl, rfl, fun x => x⟩))
    · cases e : s.heap.get? h₅.objs.size with
      | none => rfl
      | some o => obtain ⟨o', q⟩ := m₅.live _ _ e; exact absurd (Heap.lt_size q) (Nat.lt_irrefl _)
    · exact W1.frame _ _ _ h1₅ (fun b hb o e => up b o (fun q => z1 (q ▸ hb)) e) (by simp)
    · exact W2.frame _ _ _ h2₅ (fun b hb o e => up b o (fun q => z2 (q ▸ hb)) e) (by simp)
  go := fun A elts k pos i T s Q E hm hQ => by
    obtain ⟨hz, hTI, ⟨a, b, hTO⟩, h1, h2⟩ := hm
    refine wpAny_letOwnedTupleGo_zip hz fun h' hz' hs' => hQ _ ⟨hz', hs'.extBut _ _ zt hTI, ⟨a, b, hs'.extBut _ _ zo hTO⟩, ?_, ?_⟩ (Mv.of_same hs' (by simp) hz')
    · exact W1.frame _ _ _ h1 (fun b hb o e => hs'.extBut _ _ (fun q => z1 (q ▸ hb)) e) (by simp)
    · exact W2.frame _ _ _ h2 (fun b hb o e => hs'.extBut _ _ (fun q => z2 (q ▸ hb)) e) (by simp)
  done := fun A hA s Q E st hE => by
    obtain ⟨hz, hTI, ⟨a, b, hTO⟩, h1, h2⟩ := st
    show wpAny _ _ (field (.ref z) 2 >>= _) _ _ _
    refine wpAny_bind (wpAny_field hz rfl (x := .bool false) rfl ?_)
    show wpAny _ _ (field (.ref z) 3 >>= _) _ _ _
    refine wpAny_bind (wpAny_field hz rfl (x := .ref TI) rfl ?_)
    refine wpAny_bind (wpAny_seqItems hTI rfl ?_)
    show wpAny _ _ (Builtin.SmallTypes.ownedTupleIsFree (.ref z) >>= _) _ _ _
    refine wpAny_bind ?_
    unfold Builtin.SmallTypes.ownedTupleIsFree
    refine wpAny_bind (wpAny_field hz rfl (x := .none) rfl (wpAny_pure ?_))
    simp only [if_true]
    refine wpAny_bind (wpAny_rule ?_)
    refine wpAny_bind (wpAny_field hz rfl (x := .ref TO) rfl ?_)
    refine wpAny_bind (wpAny_setField_rec hz (by simp) fun h₁ hz₁ hs₁ => ?_)
    replace hz₁ : IsZip h₁ z TI TO .ellipsis := hz₁
    have m₁ : Mv ([z, TO] ++ wr1 ++ wr2) [] s { s with heap := h₁ } := Mv.of_same hs₁ (by simp) hz₁
    have h1₁ : S1 n { s with heap := h₁ } := W1.frame _ _ _ h1 (fun b hb o e => hs₁.extBut _ _ (fun q => z1 (q ▸ hb)) e) (by simp)
    refine wpAny_bind ?_
    simp only [List.zipIdx_cons, List.zipIdx_nil, List.forIn_cons, List.forIn_nil]
    refine wpAny_bind (wpAny_bind (wpAny_onRaise ?_))
    show wpAny _ _ (Builtin.SmallTypes.nextOf (.ref i1) >>= _) _ _ _
    refine wpAny_bind (W1.nx_done hA h1₁ fun e s₂ x m₂ => ?_)
    have hz₂ := m₂.keep z _ (fun q => z1 (W1.sub _ q)) hz₁
    obtain ⟨oe, hoe, hce⟩ := x
    have hez : e ≠ z := fun x => by subst x; rw [hz₂] at hoe; cases hoe; simp at hce
    replace m₂ := m₁.trans (m₂.mono (wr' := [z, TO] ++ wr1 ++ wr2) (gr' := []) (by intro b hb; simp [hb]) (by simp))
    refine wpAny_setField_rec hz₂ (by simp) fun h₃ hz₃ hs₃ => hE e _ ⟨oe, hs₃.extBut _ _ hez hoe, hce⟩ (m₂.trans (Mv.of_same hs₃ (by simp) hz₃))
end
section
abbrev bodyOf (f : FuncData) : List Stmt := match f.body with | .stmts b => b | .expr _ => []
theorem bits_le {a : Int} {k : Nat} (h : a.natAbs < 2 ^ k) : Builtin.Int.intBits a ≤ k := by
  unfold Builtin.Int.intBits
  by_cases h0 : (a == 0) = true
  · rw [if_pos h0]; exact Nat.zero_le _
  · rw [if_neg h0]
    have h1 : a.natAbs ≠ 0 := fun e => h0 (by have : a = 0 := Int.natAbs_eq_zero.mp e; simp [this])
    exact (Nat.log2_lt h1).mpr h
section
variable {w : World} {A : Around} {n : Nat} {E : Value → Shared → Prop} {Q : Value → Shared → Prop} {h h₀ : Heap} {g : Array GenState} {d : Drawn} {t : Nat} {os : OsState} {env : Env} {m : Str → Option Value} {news : List (Addr × Obj)} {a b : Int} {u v : Tok}
theorem i_add (k : ∀ x y, Q (.int (a + b) x) ⟨h, g, d, y, os⟩) : wpAny (model pg w) A (binaryOp .Add (.int a u) (.int b v)) Q E ⟨h, g, d, t, os⟩ := add_int (k _ _)
theorem i_sub (k : ∀ x y, Q (.int (a - b) x) ⟨h, g, d, y, os⟩) : wpAny (model pg w) A (binaryOp .Sub (.int a u) (.int b v)) Q E ⟨h, g, d, t, os⟩ := sub_int (k _ _)
theorem i_and (k : ∀ x y, Q (.int (Builtin.bitAnd a b) x) ⟨h, g, d, y, os⟩) : wpAny (model pg w) A (binaryOp .BitAnd (.int a u) (.int b v)) Q E ⟨h, g, d, t, os⟩ := and_int (k _ _)
theorem i_or (k : ∀ x y, Q (.int (Builtin.bitOr a b) x) ⟨h, g, d, y, os⟩) : wpAny (model pg w) A (binaryOp .BitOr (.int a u) (.int b v)) Q E ⟨h, g, d, t, os⟩ := or_int (k _ _)
theorem i_xor (k : ∀ x y, Q (.int (Builtin.bitXor a b) x) ⟨h, g, d, y, os⟩) : wpAny (model pg w) A (binaryOp .BitXor (.int a u) (.int b v)) Q E ⟨h, g, d, t, os⟩ := xor_int (k _ _)
theorem i_iand (k : ∀ x y, Q (.int (Builtin.bitAnd a b) x) ⟨h, g, d, y, os⟩) : wpAny (model pg w) A (inplaceOp .BitAnd (.int a u) (.int b v)) Q E ⟨h, g, d, t, os⟩ := iand_int (k _ _)
theorem i_ior (k : ∀ x y, Q (.int (Builtin.bitOr a b) x) ⟨h, g, d, y, os⟩) : wpAny (model pg w) A (inplaceOp .BitOr (.int a u) (.int b v)) Q E ⟨h, g, d, t, os⟩ := ior_int (k _ _)
theorem i_iadd (k : ∀ x y, Q (.int (a + b) x) ⟨h, g, d, y, os⟩) : wpAny (model pg w) A (inplaceOp .Add (.int a u) (.int b v)) Q E ⟨h, g, d, t, os⟩ := iadd_int (k _ _)
theorem i_eq (k : Q (.bool (a == b)) ⟨h, g, d, t, os⟩) : wpAny (model pg w) A (compareOp .Eq (.int a u) (.int b v)) Q E ⟨h, g, d, t, os⟩ := eq_int k
theorem i_ne (k : Q (.bool (a != b)) ⟨h, g, d, t, os⟩) : wpAny (model pg w) A (compareOp .NotEq (.int a u) (.int b v)) Q E ⟨h, g, d, t, os⟩ := ne_int k
theorem i_lt (k : Q (.bool (decide (a < b))) ⟨h, g, d, t, os⟩) : wpAny (model pg w) A (compareOp .Lt (.int a u) (.int b v)) Q E ⟨h, g, d, t, os⟩ := lt_int k
theorem i_gt (k : Q (.bool (decide (b < a))) ⟨h, g, d, t, os⟩) : wpAny (model pg w) A (compareOp .Gt (.int a u) (.int b v)) Q E ⟨h, g, d, t, os⟩ := gt_int k
theorem i_ge (k : Q (.bool (decide (b ≤ a))) ⟨h, g, d, t, os⟩) : wpAny (model pg w) A (compareOp .GtE (.int a u) (.int b v)) Q E ⟨h, g, d, t, os⟩ := ge_int k
theorem i_neg (k : ∀ x y, Q (.int (-a) x) ⟨h, g, d, y, os⟩) : wpAny (model pg w) A (unaryOp .USub (.int a u)) Q E ⟨h, g, d, t, os⟩ := neg_int (k _ _)
theorem i_inv (k : ∀ x y, Q (.int (Builtin.bitNot a) x) ⟨h, g, d, y, os⟩) : wpAny (model pg w) A (unaryOp .Invert (.int a u)) Q E ⟨h, g, d, t, os⟩ := invert_int (k _ _)
theorem i_mod (hb : b ≠ 0) (k : ∀ x y, Q (.int (a.fmod b) x) ⟨h, g, d, y, os⟩) : wpAny (model pg w) A (binaryOp .Mod (.int a u) (.int b v)) Q E ⟨h, g, d, t, os⟩ := mod_int' hb (k _ _)
theorem i_div (hb' : b.natAbs < 1073741824) (hb : b ≠ 0) (k : ∀ x y, Q (.int (a.fdiv b) x) ⟨h, g, d, y, os⟩) : wpAny (model pg w) A (binaryOp .FloorDiv (.int a u) (.int b v)) Q E ⟨h, g, d, t, os⟩ := by
  exact floordiv_int hb (k _ _) (Or.inl (PyProof.noPylong_small hb'))
theorem i_shr (hb : 0 ≤ b) (k : ∀ x y, Q (.int (a.fdiv (2 ^ b.toNat)) x) ⟨h, g, d, y, os⟩) : wpAny (model pg w) A (binaryOp .RShift (.int a u) (.int b v)) Q E ⟨h, g, d, t, os⟩ := rshift_int hb (k _ _)
theorem i_shl (hb : 0 ≤ b) (hb2 : b ≤ 1000) (ha : a.natAbs < 2 ^ 128) (k : ∀ x y, Q (.int (a * 2 ^ b.toNat) x) ⟨h, g, d, y, os⟩) : wpAny (model pg w) A (binaryOp .LShift (.int a u) (.int b v)) Q E ⟨h, g, d, t, os⟩ := by
  refine lshift_int hb ?_ (k _ _)
  have := bits_le ha
  omega
theorem i_ishl (hb : 0 ≤ b) (hb2 : b ≤ 1000) (ha : a.natAbs < 2 ^ 128) (k : ∀ x y, Q (.int (a * 2 ^ b.toNat) x) ⟨h, g, d, y, os⟩) : wpAny (model pg w) A (inplaceOp .LShift (.int a u) (.int b v)) Q E ⟨h, g, d, t, os⟩ := by
  refine ilshift_int hb ?_ (k _ _)
  have := bits_le ha
  omega
theorem i_ishr (hb : 0 ≤ b) (k : ∀ x y, Q (.int (a.fdiv (2 ^ b.toNat)) x) ⟨h, g, d, y, os⟩) : wpAny (model pg w) A (inplaceOp .RShift (.int a u) (.int b v)) Q E ⟨h, g, d, t, os⟩ := irshift_int hb (k _ _)
theorem i_mul (ha : a.natAbs < 2 ^ 128) (hb : b.natAbs < 2 ^ 32) (k : ∀ x y, Q (.int (a * b) x) ⟨h, g, d, y, os⟩) : wpAny (model pg w) A (binaryOp .Mult (.int a u) (.int b v)) Q E ⟨h, g, d, t, os⟩ := by
  refine mul_int (k _ _) ?_
  have := bits_le hb
  unfold IntMulOk
  rw [show decide (Builtin.Int.intBits b > shortFactorBits) = false from decide_eq_false (by unfold shortFactorBits; omega)]
  simp
theorem t_bool {Q : Bool → Shared → Prop} {b : Bool} {s : Shared} (k : Q b s) : wpAny (model pg w) A (truthy (.bool b)) Q E s := wpAny_truthy_bool k
theorem t_int {Q : Bool → Shared → Prop} {s : Shared} (k : Q (a != 0) s) : wpAny (model pg w) A (truthy (.int a u)) Q E s := truthy_int k
theorem e_bool {k : Nat} {b : Bool} {pos : Pos} (hq : Q (.bool b) ⟨h, g, d, t, os⟩) : wpAny (model pg w) A (eval (.Constant (.bool b) k pos) env) Q E ⟨h, g, d, t, os⟩ := by
  first | exact wpAny_Constant_bool hq | exact fun _ _ _ => hq
theorem e_none {k : Nat} {pos : Pos} (hq : Q .none ⟨h, g, d, t, os⟩) : wpAny (model pg w) A (eval (.Constant .none k pos) env) Q E ⟨h, g, d, t, os⟩ := by
  first | exact wpAny_Constant_none hq | exact fun _ _ _ => hq
end


/-- where a walk stands: its own names, what it made, what it left alone since hz -/
structure Wk (h₀ : Heap) (L : Addr) (hz h : Heap) (m : Str → Option Value) (news : List (Addr × Obj)) : Prop where
  F : Fr h₀ L h m
  N : News h₀ L h news
  Z : ∀ b o, b ≠ L → hz.get? b = some o → h.get? b = some o
section
variable {w : World} {A : Around} {n : Nat} {E : Value → Shared → Prop} {h h₀ h' hz : Heap} {g : Array GenState} {d : Drawn} {t : Nat} {os : OsState} {env : Env} {m : Str → Option Value} {news : List (Addr × Obj)} {M : Model} {L : Addr}
theorem Wk.kept (F : Wk h₀ L hz h m news) (k : Keeps h h') : Wk h₀ L hz h' m news := ⟨F.F.kept k, Mine.News.kept F.N k, fun b o q e => k _ _ (F.Z b o q e)⟩
theorem Wk.mark (F : Wk h₀ L hz h m news) : Wk h₀ L h h m news := ⟨F.F, F.N, fun _ _ _ e => e⟩
theorem Wk.new {a : Addr} {o : Obj} (F : Wk h₀ L hz h m news) (e : h.get? a = some o) (n : a ≠ L) (e0 : h₀.get? a = none) : Wk h₀ L hz h m ((a, o) :: news) := ⟨F.F, fun p q => by
  rcases List.mem_cons.mp q with rfl | q
  · exact ⟨e, n, e0⟩
  · exact F.N p q, F.Z⟩
theorem Wk.of (F : Fr h₀ L h m) (N : News h₀ L h news) : Wk h₀ L h h m news := ⟨F, N, fun _ _ _ e => e⟩
theorem Wk.get {a : Addr} {o : Obj} (F : Wk h₀ L hz h m news) (q : (a, o) ∈ news) : h.get? a = some o := (F.N _ q).1
theorem Wk.drop (F : Wk h₀ L hz h m news) : Wk h₀ L hz h m [] := ⟨F.F, News.nil, F.Z⟩
theorem Wk.top (F : Wk h₀ L hz h m news) (X : Top w h₀) : Top w h := Frag.In.keeps X F.F.keep
theorem Wk.old (F : Wk h₀ L hz h m news) : Keeps h₀ h := F.F.keep
theorem Wk.ne {a : Addr} {o : Obj} (F : Wk h₀ L hz h m news) (e : h₀.get? a = some o) : a ≠ L := Nat.ne_of_lt (Nat.lt_of_lt_of_le (Heap.lt_size e) F.F.above)
/-- a turn that wrote some other object -/
theorem Wk.but {a : Addr} (F : Wk h₀ L h h m news) (hs : ∀ b o, b ≠ a → h.get? b = some o → h'.get? b = some o) (hL : a ≠ L) (ha : ∀ o, h₀.get? a ≠ some o) (hn : ∀ p ∈ news, p.1 ≠ a) : Wk h₀ L h' h' m news :=
  ⟨⟨F.F.ns.at' (fun o e => hs _ o (Ne.symm hL) e), fun b o e => hs b o (fun q => ha o (q ▸ e)) (F.F.keep b o e), F.F.above⟩, fun p q => ⟨hs _ _ (hn p q) (F.N p q).1, (F.N p q).2⟩, fun _ _ _ e => e⟩
theorem Wk.mv {wr : List Addr} {gr : List Nat} {s s' : Shared} (F : Wk h₀ L s.heap s.heap m news) (v : Mv wr gr s s') (hL : L ∉ wr) (ha : ∀ a ∈ wr, ∀ o, h₀.get? a ≠ some o) (hn : ∀ p ∈ news, p.1 ∉ wr) : Wk h₀ L s'.heap s'.heap m news :=
  ⟨⟨F.F.ns.at' (fun o e => v.keep _ o hL e), fun b o e => v.keep b o (fun q => ha b q o e) (F.F.keep b o e), F.F.above⟩, fun p q => ⟨v.keep _ _ (hn p q) (F.N p q).1, (F.N p q).2⟩, fun _ _ _ e => e⟩
theorem wL {x : Str} {pos : Pos} {v : Value} {Q : Value → Shared → Prop} (F : Wk h₀ L hz h m news) (hv : m x = some v) (hq : Q v ⟨h, g, d, t, os⟩)
    (hL : env.locals = L) (hk : env.scope.kind = .function) (hl : env.kindOf x = some .local) (hd : (x == ("__debug__" : Str)) = false) :
    wpAny M A (eval (.Name x pos) env) Q E ⟨h, g, d, t, os⟩ := by subst hL; exact wpAny_Name (wpAny_loadName_local hk hl F.F.ns hv hq) hd
theorem wldL {x : Str} {v : Value} {Q : Value → Shared → Prop} (F : Wk h₀ L hz h m news) (hv : m x = some v) (hq : Q v ⟨h, g, d, t, os⟩)
    (hL : env.locals = L) (hk : env.scope.kind = .function) (hl : env.kindOf x = some .local) :
    wpAny M A (loadName env x) Q E ⟨h, g, d, t, os⟩ := by subst hL; exact wpAny_loadName_local hk hl F.F.ns hv hq
theorem wstL {x : Str} {v : Value} {Q : Unit → Shared → Prop} (F : Wk h₀ L hz h m news)
    (k : ∀ h' t, Wk h₀ L hz h' (fun y => if y = x then some v else m y) news → Q () ⟨h', g, d, t, os⟩)
    (hL : env.locals = L) (hk : env.scope.kind = .function) (hl : env.kindOf x = some .local) : wpAny M A (storeName env x v) Q E ⟨h, g, d, t, os⟩ := by
  subst hL
  exact wpAny_storeName_local hl F.F.ns (fun h' hn hs => k h' _ ⟨F.F.set hn hs, F.N.set hs, fun b o q e => hs.extBut _ _ q (F.Z b o q e)⟩) (by rw [hk]; rfl)
/-- a name of the top -/
theorem wG {x : Str} {pos : Pos} {v : Value} {Q : Value → Shared → Prop} (gl : GlobIs x v) (X : Top w h₀) (F : Wk h₀ L hz h m news) (hq : Q v ⟨h, g, d, t, os⟩)
    (hk : env.scope.kind = .function) (hl : env.kindOf x = some .globalImplicit) (hg : env.globals = 3) (hb : env.builtins = 0) (hd : (x == ("__debug__" : Str)) = false) :
    wpAny (model pg w) A (eval (.Name x pos) env) Q E ⟨h, g, d, t, os⟩ := nG gl (F.top X) hq hk hl hg hb hd
theorem callK {first : List Value} {f : Value} {e : PySem.Expr} {rest : List PySem.Expr} {pos : Pos} {Q : Value → Shared → Prop} {s : Shared} (X : Top w h₀) (hk : keepIn (K1 w.params) f = true)
    (k : wpAny (model pg w) A (spliced (backTo pos (starEach (e :: rest) env))) (fun vs s₁ => (Top w h₀ → Top w s₁.heap) ∧ wpAny (model pg w) A (call f (first ++ vs)) Q E s₁) E s)
    (he : starEach (e :: rest) env = (false, eval e env) :: starEach rest env) (hplain : (backTo pos (starEach rest env)).any (·.1) = false) :
    wpAny (model pg w) A (callWith pos f first (backTo pos (starEach (e :: rest) env)) []) Q E s :=
  callWith_K X hk (wpAny_mono k (fun vs s₁ q => ⟨q.1 X, q.2⟩) fun _ _ x => x) he hplain
theorem callKn {first : List Value} {f : Nat} {e : PySem.Expr} {rest : List PySem.Expr} {pos : Pos} {Q : Value → Shared → Prop} {s : Shared} (X : Top w h₀) (hk : keepIn (K1 w.params) (.ref (OfNat.ofNat f)) = true)
    (k : wpAny (model pg w) A (spliced (backTo pos (starEach (e :: rest) env))) (fun vs s₁ => (Top w h₀ → Top w s₁.heap) ∧ wpAny (model pg w) A (call (.ref (OfNat.ofNat f)) (first ++ vs)) Q E s₁) E s)
    (he : starEach (e :: rest) env = (false, eval e env) :: starEach rest env) (hplain : (backTo pos (starEach rest env)).any (·.1) = false) :
    wpAny (model pg w) A (callWith pos (.ref (OfNat.ofNat f)) first (backTo pos (starEach (e :: rest) env)) []) Q E s := callK X hk k he hplain
theorem callB {first : List Value} {id : String} {e : PySem.Expr} {rest : List PySem.Expr} {pos : Pos} {Q : Value → Shared → Prop} {s : Shared}
    (k : wpAny M A (spliced (backTo pos (starEach (e :: rest) env))) (fun vs s₁ => wpAny M A (call (.builtin id) (first ++ vs)) Q E s₁) E s)
    (he : starEach (e :: rest) env = (false, eval e env) :: starEach rest env) (hplain : (backTo pos (starEach rest env)).any (·.1) = false) :
    wpAny M A (callWith pos (.builtin id) first (backTo pos (starEach (e :: rest) env)) []) Q E s := callWith_method1 k he hplain
theorem callT {T : String} {e : PySem.Expr} {rest : List PySem.Expr} {pos : Pos} {Q : Value → Shared → Prop} {s : Shared}
    (k : wpAny M A (spliced (backTo pos (starEach (e :: rest) env))) (fun vs s₁ => wpAny M A (call (.type T) vs) Q E s₁) E s)
    (he : starEach (e :: rest) env = (false, eval e env) :: starEach rest env) (hplain : (backTo pos (starEach rest env)).any (·.1) = false) :
    wpAny M A (callWith pos (.type T) [] (backTo pos (starEach (e :: rest) env)) []) Q E s := callWith_type1 k he hplain
theorem callN {x : Str} {np pos : Pos} {args : List PySem.Expr} {Q : Value → Shared → Prop} {s : Shared}
    (k : wpAny M A (eval (.Name x np) env) (fun f s₁ => wpAny M A (callWith pos f [] (backTo pos (starEach args env)) []) Q E s₁) E s) :
    wpAny M A (eval (.Call (.Name x np) args [] pos) env) Q E s := wpAny_Call_ofName k
theorem call_fn' {Q : Value → Shared → Prop} {f : Addr} {fd : FuncData} {body : List Stmt} {vals : List Value} {binds : List (Str × Value)} (hA : AOk A (n + 2)) (X : Top w h) (FA : FnAt f fd body)
    (hbind : bindArgs fd ⟨vals, []⟩ = pure binds) (hcell : ∀ x ∈ fd.scope.names, x.2 ≠ .cell) (hgen : fd.scope.isGenerator = false) (hloc : ∀ x ∈ binds, fd.scope.names.lookup x.1 = some .local)
    (k : ∀ h₁ t₁ L, Wk h L h₁ h₁ (fun x => binds.reverse.lookup x) [] → AOk (A.deeper (envX fd.qualname fd.scope L f fd.code [])) n →
      wpAny (model pg w) (A.deeper (envX fd.qualname fd.scope L f fd.code [])) (execs body (envX fd.qualname fd.scope L f fd.code [])) (RetQ Q) (fun _ _ => False) ⟨h₁, g, d, t₁, os⟩) :
    wpAny (model pg w) A (call (.ref f) vals) Q E ⟨h, g, d, t, os⟩ :=
  call_fn hA X FA hbind hcell hgen hloc fun h₁ t₁ L F N a => k h₁ t₁ L ⟨F, News.nil, fun _ _ _ e => e⟩ a
end
section
variable {w : World} {A : Around} {E : Value → Shared → Prop} {env : Env} {s : Shared}
def ForR (M : Model) (A : Around) (env : Env) (E : Value → Shared → Prop) (Q : Flow → Shared → Prop) : Result → Shared → Prop := fun r s' => match r with | .ok f => Q f s' | .error e => cameBackBy M A env E e s'
def TurnQ (J : Shared → Prop) (R : Result → Shared → Prop) : Flow → Shared → Prop := fun f s => match f with
  | .next | .cont => J s
  | .brk => R (.ok .next) s
  | .ret v => R (.ok (.ret v)) s
theorem tq_next {J : Shared → Prop} {R : Result → Shared → Prop} {s : Shared} (h : J s) : TurnQ J R .next s := h
theorem tq_ret {J : Shared → Prop} {M : Model} {A : Around} {env : Env} {E : Value → Shared → Prop} {Q : Flow → Shared → Prop} {s : Shared} {v : Value} (h : Q (.ret v) s) : TurnQ J (ForR M A env E Q) (.ret v) s := h
theorem s_for {M : Model} {target iter body orelse pos} {Q : Flow → Shared → Prop}
    (h : wpAny M A (eval iter env) (fun x s₁ => wpAny M A (pyIter x) (fun it s₂ => codeAny M A (.forLoop target it body orelse env) (ForR M A env E Q) s₂) E s₁) E s)
    (hs : ∀ x, foldedSetIterable iter env x = pure x := by intro _; rfl) : wpAny M A (exec (.For target iter body orelse pos) env) Q E s := wpAny_For h hs
/-- a loop over pairs handed out -/
theorem for_T {Q : Flow → Shared → Prop} {c : Nat} {b : Builtin} {T id : String} {I : Addr} {fp wr : List Addr} {gr : List Nat} {n : Nat} {P : Nat → Value → Value → Prop} {St : Nat → Shared → Prop} {Mid : Nat → Addr → Shared → Prop}
    {elts : List PySem.Expr} {k : Nat} {pos : Pos} {body : List Stmt} (W : ItT w c b T id I fp wr gr n P St Mid) (hA : AOk A (c + 1)) (Inv : Nat → Shared → Prop) (hs : ∀ i s, Inv i s → St i s)
    (turn : ∀ i s s₁ T x y, i < n → Inv i s → P i x y → IsPair s₁.heap T x y → s.heap.get? T = none → St (i + 1) s₁ → Mv wr gr s s₁ →
      wpAny (model pg w) A (assign (.Tuple elts k pos) env (.ref T)) (fun _ s₂ => wpAny (model pg w) A (execs body env) (TurnQ (Inv (i + 1)) (ForR (model pg w) A env (fun _ _ => False) Q)) (fun _ _ => False) s₂) (fun _ _ => False) s₁)
    (done : ∀ s s₁, Inv n s → Mv wr gr s s₁ → Q .next s₁) (h0 : Inv 0 s) : codeAny (model pg w) A (.forLoop (.Tuple elts k pos) (.ref I) body [] env) (ForR (model pg w) A env (fun _ _ => False) Q) s := by
  have nf : ∀ {α : Type} {t : Sem α} {Q' : α → Shared → Prop} {E' : Value → Shared → Prop} {s : Shared}, wpAny (model pg w) A t Q' (fun _ _ => False) s → wpAny (model pg w) A t Q' E' s := fun h => wpAny_mono h (fun _ _ x => x) fun _ _ x => x.elim
  refine codeAny_forLoop_any (fun k s => ∃ i, k = n - i ∧ i ≤ n ∧ Inv i s) ?_ n ⟨0, rfl, Nat.zero_le _, h0⟩
  rintro k s ⟨i, rfl, hi, hI⟩
  by_cases hlt : i < n
  · refine W.py_item hA hlt (hs _ _ hI) fun T x y s₁ hp hT hf hm hv => ?_
    refine W.go _ _ _ _ _ _ _ _ _ hm fun s₂ hst hv₂ => ?_
    have hTw : T ∉ wr := fun q => by obtain ⟨o, e⟩ := W.live _ _ (hs _ _ hI) T q; rw [hf] at e; cases e
    refine wpAny_mono (nf (turn i s s₂ T x y hlt hI hp (hv₂.keep _ _ hTw hT) hf hst (hv.trans hv₂))) (fun _ s₃ h₃ => ?_) fun _ _ x => x
    refine wpAny_mono (nf h₃) (fun f s₄ h₄ => ?_) fun _ _ x => x
    cases f with
    | next => exact ⟨n - (i + 1), by omega, i + 1, rfl, hlt, h₄⟩
    | cont => exact ⟨n - (i + 1), by omega, i + 1, rfl, hlt, h₄⟩
    | brk => exact h₄
    | ret v => exact h₄
  · obtain rfl : i = n := by omega
    exact W.py_done hA (hs _ _ hI) fun s₁ hv => s_nil (done s s₁ hI hv)
/-- two names out of a pair -/
theorem asg2 {h h₀ hz : Heap} {g : Array GenState} {d : Drawn} {t : Nat} {os : OsState} {m : Str → Option Value} {news : List (Addr × Obj)} {x y : Str} {px py pos : Pos} {k : Nat} {T : Addr} {a b : Value} {Q : Unit → Shared → Prop} {L : Addr}
    (hh : A.handled = none) (F : Wk h₀ L hz h m news) (hT : IsPair h T a b)
    (q : ∀ h' t', Wk h₀ L hz h' (fun z => if z = y then some b else if z = x then some a else m z) news → Q () ⟨h', g, d, t', os⟩)
    (hL : env.locals = L) (hk : env.scope.kind = .function) (hx : env.kindOf x = some .local) (hy : env.kindOf y = some .local) :
    wpAny (model pg w) A (assign (.Tuple [.Name x px, .Name y py] k pos) env (.ref T)) Q E ⟨h, g, d, t, os⟩ := by
  refine wpAny_assign_Tuple (items := #[a, b]) hh ⟨_, hT, rfl, _, rfl⟩ rfl rfl fun h₁ e₁ => ?_
  have F₁ : Wk h₀ L hz h₁ m news := F.kept fun c o e => e₁ c o (Nat.ne_of_lt (Heap.lt_size e)) e
  refine assignInOrder_cons ?_
  refine wpAny_assign_Name (wstL F₁ (fun h₂ t₂ F₂ => ?_) hL hk hx)
  refine assignInOrder_cons ?_
  refine wpAny_assign_Name (wstL F₂ (fun h₃ t₃ F₃ => ?_) hL hk hy)
  exact assignInOrder_nil (q _ _ F₃)
end

theorem br_nt {M : Model} {A : Around} {E : Value → Shared → Prop} {env : Env} {a b : List Stmt} {Q : Flow → Shared → Prop} {s : Shared} (h : wpAny M A (execs b env) Q E s) : Br M A E env a b Q (!true) s := h
theorem br_nf {M : Model} {A : Around} {E : Value → Shared → Prop} {env : Env} {a b : List Stmt} {Q : Flow → Shared → Prop} {s : Shared} (h : wpAny M A (execs a env) Q E s) : Br M A E env a b Q (!false) s := h
theorem br_is {M : Model} {A : Around} {E : Value → Shared → Prop} {env : Env} {a b : List Stmt} {Q : Flow → Shared → Prop} {s : Shared} {c : Bool} (c' : Bool) (e : c = c') (h : Br M A E env a b Q c' s) : Br M A E env a b Q c s := e ▸ h

theorem Wk.liveL {h₀ hz h : Heap} {L : Addr} {m : Str → Option Value} {news : List (Addr × Obj)} (F : Wk h₀ L hz h m news) : ∃ o, h.get? L = some o := let ⟨o, _, _, e, _⟩ := F.F.ns; ⟨o, e⟩
theorem Wk.neL {h₀ hz h : Heap} {L a : Addr} {m : Str → Option Value} {news : List (Addr × Obj)} (F : Wk h₀ L hz h m news) (e : h.get? a = none) : L ≠ a := fun q => by obtain ⟨o, x⟩ := F.liveL; rw [q, e] at x; cases x
theorem Wk.no {h₀ hz h : Heap} {L a : Addr} {m : Str → Option Value} {news : List (Addr × Obj)} (F : Wk h₀ L hz h m news) (e : h.get? a = none) : ∀ o, h₀.get? a ≠ some o := fun o q => by rw [F.old _ _ q] at e; cases e
end
end
section
local macro_rules | `(tactic| x_close) => `(tactic| first
  | exact $(Lean.mkIdent `hk) _ _ Keeps.refl
  | exact $(Lean.mkIdent `hk) _ _ (keeps_of_mem (by assumption))
  | exact $(Lean.mkIdent `hk) _ _ _ Keeps.refl
  | exact $(Lean.mkIdent `hk) _ _ _ (keeps_of_mem (by assumption))
  | (apply $(Lean.mkIdent `hk); assumption)
  | (exact $(Lean.mkIdent `hk) _ _ _ (keeps_of_mem (by assumption)) (X.Mem.nw (by assumption) _ (List.mem_cons_self ..)).1 (X.Mem.nw (by assumption) _ (List.mem_cons_self ..)).2)
)
section
section
variable {w : World} {A : Around} {n : Nat} {E : Value → Shared → Prop} {Q : Value → Shared → Prop} {h : Heap} {g : Array GenState} {d : Drawn} {t : Nat} {os : OsState}
theorem x_isinst_bytes_str {b : Array UInt8} {t1 : Tok} (X : Frag.In (K1 w.params) h) (hk : ∀ h' t', Keeps h h' → Q (.bool false) ⟨h', g, d, t', os⟩) :
    wpAny (model pg w) AX (call (.builtin "isinstance") [.bytes b t1, .type "str"]) Q E ⟨h, g, d, t, os⟩ := by x_run
theorem x_isinst_bytes_bytes {b : Array UInt8} {t1 : Tok} (X : Frag.In (K1 w.params) h) (hk : ∀ h' t', Keeps h h' → Q (.bool true) ⟨h', g, d, t', os⟩) :
    wpAny (model pg w) AX (call (.builtin "isinstance") [.bytes b t1, .type "bytes"]) Q E ⟨h, g, d, t, os⟩ := by x_run
theorem x_len_bytes {b : Array UInt8} {t1 : Tok} (X : Frag.In (K1 w.params) h) (hb : b.size ≤ 4096) (hk : ∀ h' t' tk, Keeps h h' → Q (.int b.size tk) ⟨h', g, d, t', os⟩) :
    wpAny (model pg w) AX (call (.builtin "len") [.bytes b t1]) Q E ⟨h, g, d, t, os⟩ := by x_run
theorem x_zip_bytes {b c : Array UInt8} {t1 t2 : Tok} (X : Frag.In (K1 w.params) h) (hk : ∀ h' t' z o1 o2 o3 o4, Mem h h' [] [(z, ⟨.type "zip", none, .fields #[.none, .bool false, .bool false, .ref o2, .ref o1], #[]⟩), (o1, ⟨.type "tuple", none, .seq #[.none, .none] 0, #[]⟩), (o2, ⟨.type "tuple", none, .seq #[.ref o4, .ref o3] 0, #[]⟩), (o3, ⟨.type "bytes_iterator", none, .fields #[.bytes c t2, .int 0 0], #[]⟩), (o4, ⟨.type "bytes_iterator", none, .fields #[.bytes b t1, .int 0 0], #[]⟩)] → Q (.ref z) ⟨h', g, d, t', os⟩) :
    wpAny (model pg w) AX (call (.type "zip") [.bytes b t1, .bytes c t2]) Q E ⟨h, g, d, t, os⟩ := by x_run
theorem x_ge : True := trivial
end
end
end
section
section
theorem gl_isinstance : GlobIs "isinstance" (.builtin "isinstance") := fun P => .inr ⟨by kernel_rfl, by kernel_rfl⟩
theorem gl_len : GlobIs "len" (.builtin "len") := fun P => .inr ⟨by kernel_rfl, by kernel_rfl⟩
theorem gl_divmod : GlobIs "divmod" (.builtin "divmod") := fun P => .inr ⟨by kernel_rfl, by kernel_rfl⟩
theorem gl_iter : GlobIs "iter" (.builtin "iter") := fun P => .inr ⟨by kernel_rfl, by kernel_rfl⟩
theorem gl_bytes : GlobIs "bytes" (.type "bytes") := fun P => .inr ⟨by kernel_rfl, by kernel_rfl⟩
theorem gl_zip : GlobIs "zip" (.type "zip") := fun P => .inr ⟨by kernel_rfl, by kernel_rfl⟩
theorem gl_TypeError : GlobIs "TypeError" (.type "TypeError") := fun P => .inr ⟨by kernel_rfl, by kernel_rfl⟩
theorem gl_ValueError : GlobIs "ValueError" (.type "ValueError") := fun P => .inr ⟨by kernel_rfl, by kernel_rfl⟩
theorem gl_KeyError : GlobIs "KeyError" (.type "KeyError") := fun P => .inr ⟨by kernel_rfl, by kernel_rfl⟩
theorem gl_int : GlobIs "int" (.type "int") := fun P => .inr ⟨by kernel_rfl, by kernel_rfl⟩
theorem gl_set : GlobIs "set" (.type "set") := fun P => .inr ⟨by kernel_rfl, by kernel_rfl⟩
theorem gl_dict : GlobIs "dict" (.type "dict") := fun P => .inr ⟨by kernel_rfl, by kernel_rfl⟩
theorem gl_enumerate : GlobIs "enumerate" (.type "enumerate") := fun P => .inr ⟨by kernel_rfl, by kernel_rfl⟩
theorem gl_frozenset : GlobIs "frozenset" (.type "frozenset") := fun P => .inr ⟨by kernel_rfl, by kernel_rfl⟩
theorem gl_reversed : GlobIs "reversed" (.type "reversed") := fun P => .inr ⟨by kernel_rfl, by kernel_rfl⟩
theorem gl_range : GlobIs "range" (.type "range") := fun P => .inr ⟨by kernel_rfl, by kernel_rfl⟩
theorem gl_list : GlobIs "list" (.type "list") := fun P => .inr ⟨by kernel_rfl, by kernel_rfl⟩
theorem gl_unicode : GlobIs "unicode" (.type "str") := fun P => .inl (by kernel_rfl)
theorem gl_PY3 : GlobIs "PY3" (.bool true) := fun P => .inl (by kernel_rfl)
theorem gl_irange : GlobIs "irange" (.type "range") := fun P => .inl (by kernel_rfl)
theorem gl_imap : GlobIs "imap" (.type "map") := fun P => .inl (by kernel_rfl)
theorem gl_join_byte_values : GlobIs "join_byte_values" (.type "bytes") := fun P => .inl (by kernel_rfl)
theorem gl_join_byte_elems : GlobIs "join_byte_elems" (.type "bytes") := fun P => .inl (by kernel_rfl)
theorem gl_nextgetter : GlobIs "nextgetter" (.ref 28) := fun P => .inl (by kernel_rfl)
theorem gl_consteq : GlobIs "consteq" (.ref 35) := fun P => .inl (by kernel_rfl)
theorem gl_splitcomma : GlobIs "splitcomma" (.ref 41) := fun P => .inl (by kernel_rfl)
theorem gl_bytes_to_int : GlobIs "bytes_to_int" (.ref 48) := fun P => .inl (by kernel_rfl)
theorem gl_int_to_bytes : GlobIs "int_to_bytes" (.ref 55) := fun P => .inl (by kernel_rfl)
theorem gl_xor_bytes : GlobIs "xor_bytes" (.ref 62) := fun P => .inl (by kernel_rfl)
theorem gl_repeat_string : GlobIs "repeat_string" (.ref 69) := fun P => .inl (by kernel_rfl)
theorem gl_right_pad_string : GlobIs "right_pad_string" (.ref 77) := fun P => .inl (by kernel_rfl)
theorem gl__law_signs : GlobIs "_law_signs" (.ref 303) := fun P => .inl (by kernel_rfl)
theorem gl__law_spoil : GlobIs "_law_spoil" (.ref 310) := fun P => .inl (by kernel_rfl)
theorem gl__law_refuses : GlobIs "_law_refuses" (.ref 317) := fun P => .inl (by kernel_rfl)
theorem gl_Base64Engine : GlobIs "Base64Engine" (.ref 294) := fun P => .inl (by kernel_rfl)
end
section
theorem fn35 : FnAt 35 fd35S.1 (bodyOf fd35S.1) := ⟨fd35S.2, rfl, fun P => by kernel_rfl, fun P => by kernel_rfl, rfl, rfl, fun _ => rfl⟩
def fd41S : { f : FuncData // ∀ P, (K1 P).lookup 41 = some ⟨.type "function", none, .func f, #[]⟩ } := ⟨_, fun P => by rfl⟩
theorem fn41 : FnAt 41 fd41S.1 (bodyOf fd41S.1) := ⟨fd41S.2, rfl, fun P => by kernel_rfl, fun P => by kernel_rfl, rfl, rfl, fun _ => rfl⟩
def fd48S : { f : FuncData // ∀ P, (K1 P).lookup 48 = some ⟨.type "function", none, .func f, #[]⟩ } := ⟨_, fun P => by rfl⟩
theorem fn48 : FnAt 48 fd48S.1 (bodyOf fd48S.1) := ⟨fd48S.2, rfl, fun P => by kernel_rfl, fun P => by kernel_rfl, rfl, rfl, fun _ => rfl⟩
def fd55S : { f : FuncData // ∀ P, (K1 P).lookup 55 = some ⟨.type "function", none, .func f, #[]⟩ } := ⟨_, fun P => by rfl⟩
theorem fn55 : FnAt 55 fd55S.1 (bodyOf fd55S.1) := ⟨fd55S.2, rfl, fun P => by kernel_rfl, fun P => by kernel_rfl, rfl, rfl, fun _ => rfl⟩
def fd62S : { f : FuncData // ∀ P, (K1 P).lookup 62 = some ⟨.type "function", none, .func f, #[]⟩ } := ⟨_, fun P => by rfl⟩
theorem fn62 : FnAt 62 fd62S.1 (bodyOf fd62S.1) := ⟨fd62S.2, rfl, fun P => by kernel_rfl, fun P => by kernel_rfl, rfl, rfl, fun _ => rfl⟩
def fd69S : { f : FuncData // ∀ P, (K1 P).lookup 69 = some ⟨.type "function", none, .func f, #[]⟩ } := ⟨_, fun P => by rfl⟩
theorem fn69 : FnAt 69 fd69S.1 (bodyOf fd69S.1) := ⟨fd69S.2, rfl, fun P => by kernel_rfl, fun P => by kernel_rfl, rfl, rfl, fun _ => rfl⟩
def fd77S : { f : FuncData // ∀ P, (K1 P).lookup 77 = some ⟨.type "function", none, .func f, #[]⟩ } := ⟨_, fun P => by rfl⟩
theorem fn77 : FnAt 77 fd77S.1 (bodyOf fd77S.1) := ⟨fd77S.2, rfl, fun P => by kernel_rfl, fun P => by kernel_rfl, rfl, rfl, fun _ => rfl⟩
def fd106S : { f : FuncData // ∀ P, (K1 P).lookup 106 = some ⟨.type "function", none, .func f, #[]⟩ } := ⟨_, fun P => by rfl⟩
theorem fn106 : FnAt 106 fd106S.1 (bodyOf fd106S.1) := ⟨fd106S.2, rfl, fun P => by kernel_rfl, fun P => by kernel_rfl, rfl, rfl, fun _ => rfl⟩
def fd113S : { f : FuncData // ∀ P, (K1 P).lookup 113 = some ⟨.type "function", none, .func f, #[]⟩ } := ⟨_, fun P => by rfl⟩
theorem fn113 : FnAt 113 fd113S.1 (bodyOf fd113S.1) := ⟨fd113S.2, rfl, fun P => by kernel_rfl, fun P => by kernel_rfl, rfl, rfl, fun _ => rfl⟩
def fd121S : { f : FuncData // ∀ P, (K1 P).lookup 121 = some ⟨.type "function", none, .func f, #[]⟩ } := ⟨_, fun P => by rfl⟩
theorem fn121 : FnAt 121 fd121S.1 (bodyOf fd121S.1) := ⟨fd121S.2, rfl, fun P => by kernel_rfl, fun P => by kernel_rfl, rfl, rfl, fun _ => rfl⟩
def fd128S : { f : FuncData // ∀ P, (K1 P).lookup 128 = some ⟨.type "function", none, .func f, #[]⟩ } := ⟨_, fun P => by rfl⟩
theorem fn128 : FnAt 128 fd128S.1 (bodyOf fd128S.1) := ⟨fd128S.2, rfl, fun P => by kernel_rfl, fun P => by kernel_rfl, rfl, rfl, fun _ => rfl⟩
def fd135S : { f : FuncData // ∀ P, (K1 P).lookup 135 = some ⟨.type "function", none, .func f, #[]⟩ } := ⟨_, fun P => by rfl⟩
theorem fn135 : FnAt 135 fd135S.1 (bodyOf fd135S.1) := ⟨fd135S.2, rfl, fun P => by kernel_rfl, fun P => by kernel_rfl, rfl, rfl, fun _ => rfl⟩
def fd142S : { f : FuncData // ∀ P, (K1 P).lookup 142 = some ⟨.type "function", none, .func f, #[]⟩ } := ⟨_, fun P => by rfl⟩
theorem fn142 : FnAt 142 fd142S.1 (bodyOf fd142S.1) := ⟨fd142S.2, rfl, fun P => by kernel_rfl, fun P => by kernel_rfl, rfl, rfl, fun _ => rfl⟩
def fd149S : { f : FuncData // ∀ P, (K1 P).lookup 149 = some ⟨.type "function", none, .func f, #[]⟩ } := ⟨_, fun P => by rfl⟩
theorem fn149 : FnAt 149 fd149S.1 (bodyOf fd149S.1) := ⟨fd149S.2, rfl, fun P => by kernel_rfl, fun P => by kernel_rfl, rfl, rfl, fun _ => rfl⟩
def fd156S : { f : FuncData // ∀ P, (K1 P).lookup 156 = some ⟨.type "function", none, .func f, #[]⟩ } := ⟨_, fun P => by rfl⟩
theorem fn156 : FnAt 156 fd156S.1 (bodyOf fd156S.1) := ⟨fd156S.2, rfl, fun P => by kernel_rfl, fun P => by kernel_rfl, rfl, rfl, fun _ => rfl⟩
def fd163S : { f : FuncData // ∀ P, (K1 P).lookup 163 = some ⟨.type "function", none, .func f, #[]⟩ } := ⟨_, fun P => by rfl⟩
theorem fn163 : FnAt 163 fd163S.1 (bodyOf fd163S.1) := ⟨fd163S.2, rfl, fun P => by kernel_rfl, fun P => by kernel_rfl, rfl, rfl, fun _ => rfl⟩
def fd170S : { f : FuncData // ∀ P, (K1 P).lookup 170 = some ⟨.type "function", none, .func f, #[]⟩ } := ⟨_, fun P => by rfl⟩
theorem fn170 : FnAt 170 fd170S.1 (bodyOf fd170S.1) := ⟨fd170S.2, rfl, fun P => by kernel_rfl, fun P => by kernel_rfl, rfl, rfl, fun _ => rfl⟩
def fd178S : { f : FuncData // ∀ P, (K1 P).lookup 178 = some ⟨.type "function", none, .func f, #[]⟩ } := ⟨_, fun P => by rfl⟩
theorem fn178 : FnAt 178 fd178S.1 (bodyOf fd178S.1) := ⟨fd178S.2, rfl, fun P => by kernel_rfl, fun P => by kernel_rfl, rfl, rfl, fun _ => rfl⟩
def fd186S : { f : FuncData // ∀ P, (K1 P).lookup 186 = some ⟨.type "function", none, .func f, #[]⟩ } := ⟨_, fun P => by rfl⟩
theorem fn186 : FnAt 186 fd186S.1 (bodyOf fd186S.1) := ⟨fd186S.2, rfl, fun P => by kernel_rfl, fun P => by kernel_rfl, rfl, rfl, fun _ => rfl⟩
def fd193S : { f : FuncData // ∀ P, (K1 P).lookup 193 = some ⟨.type "function", none, .func f, #[]⟩ } := ⟨_, fun P => by rfl⟩
theorem fn193 : FnAt 193 fd193S.1 (bodyOf fd193S.1) := ⟨fd193S.2, rfl, fun P => by kernel_rfl, fun P => by kernel_rfl, rfl, rfl, fun _ => rfl⟩
def fd214S : { f : FuncData // ∀ P, (K1 P).lookup 214 = some ⟨.type "function", none, .func f, #[]⟩ } := ⟨_, fun P => by rfl⟩
theorem fn214 : FnAt 214 fd214S.1 (bodyOf fd214S.1) := ⟨fd214S.2, rfl, fun P => by kernel_rfl, fun P => by kernel_rfl, rfl, rfl, fun _ => rfl⟩
def fd235S : { f : FuncData // ∀ P, (K1 P).lookup 235 = some ⟨.type "function", none, .func f, #[]⟩ } := ⟨_, fun P => by rfl⟩
theorem fn235 : FnAt 235 fd235S.1 (bodyOf fd235S.1) := ⟨fd235S.2, rfl, fun P => by kernel_rfl, fun P => by kernel_rfl, rfl, rfl, fun _ => rfl⟩
def fd249S : { f : FuncData // ∀ P, (K1 P).lookup 249 = some ⟨.type "function", none, .func f, #[]⟩ } := ⟨_, fun P => by rfl⟩
theorem fn249 : FnAt 249 fd249S.1 (bodyOf fd249S.1) := ⟨fd249S.2, rfl, fun P => by kernel_rfl, fun P => by kernel_rfl, rfl, rfl, fun _ => rfl⟩
def fd256S : { f : FuncData // ∀ P, (K1 P).lookup 256 = some ⟨.type "function", none, .func f, #[]⟩ } := ⟨_, fun P => by rfl⟩
theorem fn256 : FnAt 256 fd256S.1 (bodyOf fd256S.1) := ⟨fd256S.2, rfl, fun P => by kernel_rfl, fun P => by kernel_rfl, rfl, rfl, fun _ => rfl⟩
def fd277S : { f : FuncData // ∀ P, (K1 P).lookup 277 = some ⟨.type "function", none, .func f, #[]⟩ } := ⟨_, fun P => by rfl⟩
theorem fn277 : FnAt 277 fd277S.1 (bodyOf fd277S.1) := ⟨fd277S.2, rfl, fun P => by kernel_rfl, fun P => by kernel_rfl, rfl, rfl, fun _ => rfl⟩
def fd291S : { f : FuncData // ∀ P, (K1 P).lookup 291 = some ⟨.type "function", none, .func f, #[]⟩ } := ⟨_, fun P => by rfl⟩
theorem fn291 : FnAt 291 fd291S.1 (bodyOf fd291S.1) := ⟨fd291S.2, rfl, fun P => by kernel_rfl, fun P => by kernel_rfl, rfl, rfl, fun _ => rfl⟩
def fd303S : { f : FuncData // ∀ P, (K1 P).lookup 303 = some ⟨.type "function", none, .func f, #[]⟩ } := ⟨_, fun P => by rfl⟩
theorem fn303 : FnAt 303 fd303S.1 (bodyOf fd303S.1) := ⟨fd303S.2, rfl, fun P => by kernel_rfl, fun P => by kernel_rfl, rfl, rfl, fun _ => rfl⟩
def fd310S : { f : FuncData // ∀ P, (K1 P).lookup 310 = some ⟨.type "function", none, .func f, #[]⟩ } := ⟨_, fun P => by rfl⟩
theorem fn310 : FnAt 310 fd310S.1 (bodyOf fd310S.1) := ⟨fd310S.2, rfl, fun P => by kernel_rfl, fun P => by kernel_rfl, rfl, rfl, fun _ => rfl⟩
def fd317S : { f : FuncData // ∀ P, (K1 P).lookup 317 = some ⟨.type "function", none, .func f, #[]⟩ } := ⟨_, fun P => by rfl⟩
theorem fn317 : FnAt 317 fd317S.1 (bodyOf fd317S.1) := ⟨fd317S.2, rfl, fun P => by kernel_rfl, fun P => by kernel_rfl, rfl, rfl, fun _ => rfl⟩
def fd322S : { f : FuncData // ∀ P, (K1 P).lookup 322 = some ⟨.type "function", none, .func f, #[]⟩ } := ⟨_, fun P => by rfl⟩
theorem fn322 : FnAt 322 fd322S.1 (bodyOf fd322S.1) := ⟨fd322S.2, rfl, fun P => by kernel_rfl, fun P => by kernel_rfl, rfl, rfl, fun _ => rfl⟩
def fd28S : { f : FuncData // ∀ P, (K1 P).lookup 28 = some ⟨.type "function", none, .func f, #[]⟩ } := ⟨_, fun P => by rfl⟩
theorem fn28 : FnAt 28 fd28S.1 (bodyOf fd28S.1) := ⟨fd28S.2, rfl, fun P => by kernel_rfl, fun P => by kernel_rfl, rfl, rfl, fun _ => rfl⟩
end
section
def globL : List (Str × Value) := [(("isinstance" : Str), (.builtin "isinstance" : Value)), (("len" : Str), (.builtin "len" : Value)), (("divmod" : Str), (.builtin "divmod" : Value)), (("iter" : Str), (.builtin "iter" : Value)), (("bytes" : Str), (.type "bytes" : Value)), (("zip" : Str), (.type "zip" : Value)), (("TypeError" : Str), (.type "TypeError" : Value)), (("ValueError" : Str), (.type "ValueError" : Value)), (("KeyError" : Str), (.type "KeyError" : Value)), (("int" : Str), (.type "int" : Value)), (("set" : Str), (.type "set" : Value)), (("dict" : Str), (.type "dict" : Value)), (("enumerate" : Str), (.type "enumerate" : Value)), (("frozenset" : Str), (.type "frozenset" : Value)), (("reversed" : Str), (.type "reversed" : Value)), (("range" : Str), (.type "range" : Value)), (("list" : Str), (.type "list" : Value)), (("unicode" : Str), (.type "str" : Value)), (("PY3" : Str), (.bool true : Value)), (("irange" : Str), (.type "range" : Value)), (("imap" : Str), (.type "map" : Value)), (("join_byte_values" : Str), (.type "bytes" : Value)), (("join_byte_elems" : Str), (.type "bytes" : Value)), (("nextgetter" : Str), (.ref 28 : Value)), (("consteq" : Str), (.ref 35 : Value)), (("splitcomma" : Str), (.ref 41 : Value)), (("bytes_to_int" : Str), (.ref 48 : Value)), (("int_to_bytes" : Str), (.ref 55 : Value)), (("xor_bytes" : Str), (.ref 62 : Value)), (("repeat_string" : Str), (.ref 69 : Value)), (("right_pad_string" : Str), (.ref 77 : Value)), (("_law_signs" : Str), (.ref 303 : Value)), (("_law_spoil" : Str), (.ref 310 : Value)), (("_law_refuses" : Str), (.ref 317 : Value)), (("Base64Engine" : Str), (.ref 294 : Value))]
theorem glob_all {x : Str} {v : Value} (h : globL.lookup x = some v) : GlobIs x v := by
  have hm := mem_of_lookup h
  unfold globL at hm
  simp only [List.mem_cons, Prod.mk.injEq, List.not_mem_nil, or_false] at hm
  rcases hm with ⟨rfl, rfl⟩ | ⟨rfl, rfl⟩ | ⟨rfl, rfl⟩ | ⟨rfl, rfl⟩ | ⟨rfl, rfl⟩ | ⟨rfl, rfl⟩ | ⟨rfl, rfl⟩ | ⟨rfl, rfl⟩ | ⟨rfl, rfl⟩ | ⟨rfl, rfl⟩ | ⟨rfl, rfl⟩ | ⟨rfl, rfl⟩ | ⟨rfl, rfl⟩ | ⟨rfl, rfl⟩ | ⟨rfl, rfl⟩ | ⟨rfl, rfl⟩ | ⟨rfl, rfl⟩ | ⟨rfl, rfl⟩ | ⟨rfl, rfl⟩ | ⟨rfl, rfl⟩ | ⟨rfl, rfl⟩ | ⟨rfl, rfl⟩ | ⟨rfl, rfl⟩ | ⟨rfl, rfl⟩ | ⟨rfl, rfl⟩ | ⟨rfl, rfl⟩ | ⟨rfl, rfl⟩ | ⟨rfl, rfl⟩ | ⟨rfl, rfl⟩ | ⟨rfl, rfl⟩ | ⟨rfl, rfl⟩ | ⟨rfl, rfl⟩ | ⟨rfl, rfl⟩ | ⟨rfl, rfl⟩ | ⟨rfl, rfl⟩
  · exact gl_isinstance
  · exact gl_len
  · exact gl_divmod
  · exact gl_iter
  · exact gl_bytes
  · exact gl_zip
  · exact gl_TypeError
  · exact gl_ValueError
  · exact gl_KeyError
  · exact gl_int
  · exact gl_set
  · exact gl_dict
  · exact gl_enumerate
  · exact gl_frozenset
  · exact gl_reversed
  · exact gl_range
  · exact gl_list
  · exact gl_unicode
  · exact gl_PY3
  · exact gl_irange
  · exact gl_imap
  · exact gl_join_byte_values
  · exact gl_join_byte_elems
  · exact gl_nextgetter
  · exact gl_consteq
  · exact gl_splitcomma
  · exact gl_bytes_to_int
  · exact gl_int_to_bytes
  · exact gl_xor_bytes
  · exact gl_repeat_string
  · exact gl_right_pad_string
  · exact gl__law_signs
  · exact gl__law_spoil
  · exact gl__law_refuses
  · exact gl_Base64Engine
section
variable {w : World} {A : Around} {E : Value → Shared → Prop} {h h₀ hz : Heap} {g : Array GenState} {d : Drawn} {t : Nat} {os : OsState} {env : Env} {m : Str → Option Value} {news : List (Addr × Obj)} {L : Addr}
theorem wGl {x : Str} {pos : Pos} {v : Value} {Q : Value → Shared → Prop} (X : Top w h₀) (F : Wk h₀ L hz h m news) (gl : globL.lookup x = some v) (hq : Q v ⟨h, g, d, t, os⟩)
    (hk : env.scope.kind = .function) (hl : env.kindOf x = some .globalImplicit) (hg : env.globals = 3) (hb : env.builtins = 0) (hd : (x == ("__debug__" : Str)) = false) :
    wpAny (model pg w) A (eval (.Name x pos) env) Q E ⟨h, g, d, t, os⟩ := nG (glob_all gl) (F.top X) hq hk hl hg hb hd
end
end
end
section
local macro_rules | `(tactic| x_close) => `(tactic| first
  | exact $(Lean.mkIdent `hk) _ _ Keeps.refl
  | exact $(Lean.mkIdent `hk) _ _ (keeps_of_mem (by assumption))
  | exact $(Lean.mkIdent `hk) _ _ _ Keeps.refl
  | exact $(Lean.mkIdent `hk) _ _ _ (keeps_of_mem (by assumption))
  | (apply $(Lean.mkIdent `hk); assumption)
  | (exact $(Lean.mkIdent `hk) _ _ _ (keeps_of_mem (by assumption)) (X.Mem.nw (by assumption) _ (List.mem_cons_self ..)).1 (X.Mem.nw (by assumption) _ (List.mem_cons_self ..)).2)
)
local macro_rules | `(tactic| lcg_off) => `(tactic| (intro $(Lean.mkIdent `h) _ $(Lean.mkIdent `k); replace $(Lean.mkIdent `F) := Wk.kept $(Lean.mkIdent `F) $(Lean.mkIdent `k); clear $(Lean.mkIdent `k)))
local macro_rules | `(tactic| lcg_src) => `(tactic| (intro $(Lean.mkIdent `h) _ _ $(Lean.mkIdent `k); replace $(Lean.mkIdent `F) := Wk.kept $(Lean.mkIdent `F) $(Lean.mkIdent `k); clear $(Lean.mkIdent `k)))
local macro_rules | `(tactic| tb_rel) => `(tactic| first
  | (with_reducible show wpAny _ _ (eval (Expr.Name _ _) _) _ _ _; first
      | with_reducible refine wL $(Lean.mkIdent `F) (by with_unfolding_all first | rfl | assumption) ?_ (by with_unfolding_all rfl) (by with_unfolding_all rfl) (by with_unfolding_all rfl) (by with_unfolding_all decide)
      | with_reducible refine wGl $(Lean.mkIdent `X) $(Lean.mkIdent `F) (by with_unfolding_all rfl) ?_ (by with_unfolding_all rfl) (by with_unfolding_all rfl) (by with_unfolding_all rfl) (by with_unfolding_all rfl) (by with_unfolding_all decide))
  | (with_reducible show wpAny _ _ (eval _ _) _ _ _; first
      | with_reducible refine e_int ?_
      | with_reducible refine e_str ?_
      | with_reducible refine e_bool ?_
      | with_reducible refine e_none ?_
      | with_reducible refine wpAny_BinOp ?_
      | with_reducible refine wpAny_Compare1 ?_
      | with_reducible refine wpAny_UnaryOp ?_
      | with_reducible refine callN ?_)
  | (with_reducible show wpAny _ _ (execs _ _) _ _ _; first
      | with_reducible refine s_cons ?_
      | with_reducible refine s_nil ?_)
  | (with_reducible show wpAny _ _ (exec _ _) _ _ _; first
      | with_reducible refine s_if ?_
      | with_reducible refine wpAny_Return_some ?_
      | with_reducible refine wpAny_Assign_Name ?_ (by with_unfolding_all rfl)
      | with_reducible refine wpAny_AugAssign_Name ?_
      | with_reducible refine s_for ?_ (by intro _; with_unfolding_all rfl))
  | (with_reducible show wpAny _ _ (storeName _ _ _) _ _ _; first
      | (with_reducible refine wstL $(Lean.mkIdent `F) ?_ (by with_unfolding_all rfl) (by with_unfolding_all rfl) (by with_unfolding_all rfl); clear $(Lean.mkIdent `F); intro _ _ $(Lean.mkIdent `F)))
  | (with_reducible show wpAny _ _ (loadName _ _) _ _ _; first
      | with_reducible refine wldL $(Lean.mkIdent `F) (by with_unfolding_all first | rfl | assumption) ?_ (by with_unfolding_all rfl) (by with_unfolding_all rfl) (by with_unfolding_all rfl))
  | (with_reducible show wpAny _ _ (spliced _) _ _ _; first
      | with_reducible refine wpAny_items_cons ?_ (by with_unfolding_all rfl)
      | with_reducible refine wpAny_items_nil ?_)
  | (with_reducible show wpAny _ _ (callWith _ _ _ _ _) _ _ _; first
      | with_reducible refine callB ?_ (by with_unfolding_all rfl) (by with_unfolding_all rfl)
      | with_reducible refine callT ?_ (by with_unfolding_all rfl) (by with_unfolding_all rfl)
      | with_reducible refine callKn $(Lean.mkIdent `X) (by kernel_rfl) ?_ (by with_unfolding_all rfl) (by with_unfolding_all rfl))
  | (with_reducible show wpAny _ _ (isTrue _ _ _) _ _ _; first
      | with_reducible refine wpAny_isTrue_Compare1 ?_
      | with_reducible refine wpAny_isTrue_Not ?_
      | with_reducible refine wpAny_isTrue_BoolOp ?_
      | with_reducible refine wpAny_isTrue_value ?_ (by with_unfolding_all rfl))
  | (with_reducible show wpAny _ _ (truthy _) _ _ _; first
      | with_reducible refine t_bool ?_
      | with_reducible refine t_int ?_)
  | (with_reducible show wpAny _ _ (compareOp _ _ _) _ _ _; first
      | with_reducible refine i_eq ?_
      | with_reducible refine i_ne ?_
      | with_reducible refine i_lt ?_
      | with_reducible refine i_gt ?_
      | with_reducible refine i_ge ?_)
  | (with_reducible show wpAny _ _ (binaryOp _ _ _) _ _ _; first
      | (with_reducible refine i_add ?_; intro _ _)
      | (with_reducible refine i_sub ?_; intro _ _)
      | (with_reducible refine i_and ?_; intro _ _)
      | (with_reducible refine i_or ?_; intro _ _)
      | (with_reducible refine i_xor ?_; intro _ _))
  | (with_reducible show wpAny _ _ (inplaceOp _ _ _) _ _ _; first
      | (with_reducible refine i_iand ?_; intro _ _)
      | (with_reducible refine i_ior ?_; intro _ _)
      | (with_reducible refine i_iadd ?_; intro _ _))
  | (with_reducible show wpAny _ _ (unaryOp _ _) _ _ _; first
      | (with_reducible refine i_neg ?_; intro _ _)
      | (with_reducible refine i_inv ?_; intro _ _))
  | with_reducible refine br_t ?_
  | with_reducible refine br_f ?_
  | with_reducible refine br_nt ?_
  | with_reducible refine br_nf ?_
  | with_reducible refine then_next ?_
  | with_reducible refine then_ret ?_
  | with_reducible refine retQ ?_
  | with_reducible refine And.intro (fun _ => Wk.top $(Lean.mkIdent `F) $(Lean.mkIdent `X)) ?_)
section
theorem bitAnd_nat (a b : Nat) : Builtin.bitAnd (a : Int) (b : Int) = ((a &&& b : Nat) : Int) := by
  unfold Builtin.bitAnd
  rw [decide_eq_true (Int.natCast_nonneg a), decide_eq_true (Int.natCast_nonneg b)]
  simp
theorem bitOr_nat (a b : Nat) : Builtin.bitOr (a : Int) (b : Int) = ((a ||| b : Nat) : Int) := by
  unfold Builtin.bitOr Builtin.bitAnd Builtin.bitNot
  rw [decide_eq_false (by omega), decide_eq_false (by omega)]
  simp only []
  rw [show (-(-(a : Int) - 1) - 1).toNat = a by omega, show (-(-(b : Int) - 1) - 1).toNat = b by omega]
  omega
theorem nat_or_and_le (a b : Nat) : (a &&& b) ≤ (a ||| b) := by
  exact Nat.le_trans Nat.and_le_left Nat.left_le_or
theorem bitXor_eq_zero (a b : Nat) : Builtin.bitXor (a : Int) (b : Int) = 0 ↔ a = b := by
  unfold Builtin.bitXor
  rw [bitAnd_nat, bitOr_nat]
  constructor
  · intro h
    have h1 : (a ||| b) = (a &&& b) := by omega
    refine Nat.eq_of_testBit_eq fun i => ?_
    have := congrArg (fun z => z.testBit i) h1
    simp only [Nat.testBit_or, Nat.testBit_and] at this
    revert this
    cases a.testBit i <;> cases b.testBit i <;> simp
  · rintro rfl
    simp
theorem or_xor_nat : ∀ n a b : Nat, a < 2 ^ n → b < 2 ^ n → (a ||| b) = (a &&& b) + (a ^^^ b)
  | 0, a, b, ha, hb => by
    obtain rfl : a = 0 := by simpa using ha
    obtain rfl : b = 0 := by simpa using hb
    rfl
  | n + 1, a, b, ha, hb => by
    have ih := or_xor_nat n (a / 2) (b / 2) (by omega) (by omega)
    have o := Nat.div_add_mod (a ||| b) 2
    have c := Nat.div_add_mod (a &&& b) 2
    have x := Nat.div_add_mod (a ^^^ b) 2
    rw [Nat.or_div_two] at o
    rw [Nat.and_div_two] at c
    rw [Nat.xor_div_two] at x
    have o2 : (a ||| b) % 2 = (a % 2 ||| b % 2) := Nat.or_mod_two_pow (n := 1)
    have c2 : (a &&& b) % 2 = (a % 2 &&& b % 2) := Nat.and_mod_two_pow (n := 1)
    have x2 : (a ^^^ b) % 2 = (a % 2 ^^^ b % 2) := Nat.xor_mod_two_pow (n := 1)
    have : (a % 2 ||| b % 2) = (a % 2 &&& b % 2) + (a % 2 ^^^ b % 2) := by
      rcases Nat.mod_two_eq_zero_or_one a with e | e <;> rcases Nat.mod_two_eq_zero_or_one b with f | f <;> rw [e, f] <;> rfl
    omega
theorem bitXor_nat (a b : Nat) : Builtin.bitXor (a : Int) (b : Int) = ((a ^^^ b : Nat) : Int) := by
  unfold Builtin.bitXor
  rw [bitAnd_nat, bitOr_nat]
  have h1 : (a ||| b) = (a &&& b) + (a ^^^ b) := or_xor_nat (a + b) a b (Nat.lt_of_le_of_lt (Nat.le_add_right a b) Nat.lt_two_pow_self) (Nat.lt_of_le_of_lt (Nat.le_add_left b a) Nat.lt_two_pow_self)
  omega
theorem bitOr_zero (a b : Nat) : Builtin.bitOr (a : Int) (b : Int) = 0 ↔ a = 0 ∧ b = 0 := by
  rw [bitOr_nat]
  constructor
  · intro h
    have : a ||| b = 0 := by omega
    exact ⟨by have := @Nat.left_le_or a b; omega, by have := @Nat.right_le_or a b; omega⟩
  · rintro ⟨rfl, rfl⟩; rfl

theorem or_xor_zero (r a b : Nat) : (r ||| (a ^^^ b)) = 0 ↔ r = 0 ∧ a = b := by
  have h1 := bitOr_zero r (a ^^^ b)
  rw [bitOr_nat] at h1
  have h2 := bitXor_eq_zero a b
  rw [bitXor_nat] at h2
  omega
section
variable {w : World} {A : Around} {n : Nat} {E : Value → Shared → Prop} {Q : Value → Shared → Prop} {hp : Heap} {g : Array GenState} {d : Drawn} {t : Nat} {os : OsState}
theorem consteq_ok {b c : Array UInt8} {t1 t2 : Tok} (hA : AOk A 12) (X : Top w hp) (hb : b.size ≤ 4096) (hc : c.size ≤ 4096)
   (hQ : ∀ h' t', Keeps hp h' → Q (.bool (b == c)) ⟨h', g, d, t', os⟩) :
   wpAny (model pg w) A (call (.ref 35) [.bytes b t1, .bytes c t2]) Q E ⟨hp, g, d, t, os⟩ := by
  refine call_fn' (n := 10) (binds := [("left", .bytes b t1), ("right", .bytes c t2)]) hA X fn35 (by rfl) (by decide) (by rfl) (locs (by rfl)) ?_
  intro h₁ t₁ L F hA'
  refine s_cons ?_
  repeat tb_rel
  refine up hA' (x_isinst_bytes_str (F.top X) ?_)
  lcg_off
  repeat tb_rel
  refine up hA' (x_isinst_bytes_bytes (F.top X) ?_)
  lcg_off
  repeat tb_rel
  refine up hA' (x_isinst_bytes_bytes (F.top X) ?_)
  lcg_off
  repeat tb_rel
  refine up hA' (x_len_bytes (F.top X) hb ?_)
  lcg_src
  repeat tb_rel
  refine up hA' (x_len_bytes (F.top X) hc ?_)
  lcg_src
  repeat tb_rel
  by_cases hs : b.size = c.size
  · have hs1 : (((b.size : Nat) : Int) == ((c.size : Nat) : Int)) = true := by simp [hs]
    refine br_is true hs1 ?_
    repeat tb_rel
    refine br_is false (by rw [hs1]; rfl) ?_
    repeat tb_rel
    refine up hA' (x_zip_bytes (F.top X) ?_)
    intro h2 t2' z o1 o2 o3 o4 D
    have nz := D.nw _ (List.mem_cons_self ..)
    have n1 := D.nw _ (List.mem_cons_of_mem _ (List.mem_cons_self ..))
    have n2 := D.nw _ (List.mem_cons_of_mem _ (List.mem_cons_of_mem _ (List.mem_cons_self ..)))
    have n3 := D.nw _ (List.mem_cons_of_mem _ (List.mem_cons_of_mem _ (List.mem_cons_of_mem _ (List.mem_cons_self ..))))
    have n4 := D.nw _ (List.mem_cons_of_mem _ (List.mem_cons_of_mem _ (List.mem_cons_of_mem _ (List.mem_cons_of_mem _ (List.mem_cons_self ..)))))
    have ord := D.ord
    simp only [List.map_cons, List.map_nil, List.pairwise_cons, List.mem_cons, List.not_mem_nil, or_false, forall_eq_or_imp, forall_eq, gt_iff_lt] at ord
    obtain ⟨⟨p1, p2, p3, p4⟩, ⟨p5, p6, p7⟩, ⟨p8, p9⟩, p10, -⟩ := ord
    have q1 := Nat.ne_of_gt p1; have q2 := Nat.ne_of_gt p2; have q3 := Nat.ne_of_gt p3; have q4 := Nat.ne_of_gt p4; have q5 := Nat.ne_of_gt p5; have q6 := Nat.ne_of_gt p6; have q7 := Nat.ne_of_gt p7; have q8 := Nat.ne_of_gt p8; have q9 := Nat.ne_of_gt p9; have q10 := Nat.ne_of_gt p10
    dsimp only at nz n1 n2 n3 n4
    refine wpAny_pyIter_zip (z := z) (TI := o2) (TO := o1) nz.1 ?_
    have W := It.zip (w := w) (z := z) (TI := o2) (TO := o1) (It.bytes o4 b t1 c.size hs) (It.bytes o3 c t2 c.size rfl) (by simp [q1, q2, q3, q4, q5, q6, q7, q8, q9, q10, Ne.symm q1, Ne.symm q2, Ne.symm q3, Ne.symm q4, Ne.symm q5, Ne.symm q6, Ne.symm q7, Ne.symm q8, Ne.symm q9, Ne.symm q10]) (by simp [q1, q2, q3, q4, q5, q6, q7, q8, q9, q10, Ne.symm q1, Ne.symm q2, Ne.symm q3, Ne.symm q4, Ne.symm q5, Ne.symm q6, Ne.symm q7, Ne.symm q8, Ne.symm q9, Ne.symm q10]) (by simp [q1, q2, q3, q4, q5, q6, q7, q8, q9, q10, Ne.symm q1, Ne.symm q2, Ne.symm q3, Ne.symm q4, Ne.symm q5, Ne.symm q6, Ne.symm q7, Ne.symm q8, Ne.symm q9, Ne.symm q10]) (by simp [q1, q2, q3, q4, q5, q6, q7, q8, q9, q10, Ne.symm q1, Ne.symm q2, Ne.symm q3, Ne.symm q4, Ne.symm q5, Ne.symm q6, Ne.symm q7, Ne.symm q8, Ne.symm q9, Ne.symm q10]) (by simp [q1, q2, q3, q4, q5, q6, q7, q8, q9, q10, Ne.symm q1, Ne.symm q2, Ne.symm q3, Ne.symm q4, Ne.symm q5, Ne.symm q6, Ne.symm q7, Ne.symm q8, Ne.symm q9, Ne.symm q10]) (by simp [q1, q2, q3, q4, q5, q6, q7, q8, q9, q10, Ne.symm q1, Ne.symm q2, Ne.symm q3, Ne.symm q4, Ne.symm q5, Ne.symm q6, Ne.symm q7, Ne.symm q8, Ne.symm q9, Ne.symm q10]) (Ne.symm q2) (Ne.symm q1) (Ne.symm q5) (by simp [q1, q2, q3, q4, q5, q6, q7, q8, q9, q10, Ne.symm q1, Ne.symm q2, Ne.symm q3, Ne.symm q4, Ne.symm q5, Ne.symm q6, Ne.symm q7, Ne.symm q8, Ne.symm q9, Ne.symm q10]) (by simp [q1, q2, q3, q4, q5, q6, q7, q8, q9, q10, Ne.symm q1, Ne.symm q2, Ne.symm q3, Ne.symm q4, Ne.symm q5, Ne.symm q6, Ne.symm q7, Ne.symm q8, Ne.symm q9, Ne.symm q10])
    have lz := F.neL nz.2; have l1 := F.neL n1.2; have l2 := F.neL n2.2; have l3 := F.neL n3.2; have l4 := F.neL n4.2
    have a0 : ∀ a ∈ [z, o1] ++ [o4] ++ [o3], ∀ o, hp.get? a ≠ some o := by
      intro a ha
      simp only [List.cons_append, List.nil_append, List.mem_cons, List.not_mem_nil, or_false] at ha
      rcases ha with rfl | rfl | rfl | rfl
      · exact F.no nz.2
      · exact F.no n1.2
      · exact F.no n4.2
      · exact F.no n3.2
    refine for_T W (hA'.less (by omega)) (fun i s => ∃ h3 t3 m3 r u, s = ⟨h3, g, d, t3, os⟩ ∧ Wk hp L h3 h3 m3 [] ∧ (IsZip h3 z o2 o1 .none ∧ IsPair h3 o2 (.ref o4) (.ref o3) ∧ (∃ a b, IsPair h3 o1 a b) ∧ KBw.IsBytesIter h3 o4 b t1 i ∧ KBw.IsBytesIter h3 o3 c t2 i) ∧ m3 "result" = some (.int ((r : Nat) : Int) u) ∧ (r = 0 ↔ 0 = 0 ∧ ∀ j < i, b[j]? = c[j]?)) ?_ ?_ ?_ ?_
    · rintro i s ⟨h3, t3, m3, r, u, rfl, _, st, _⟩
      exact st
    · rintro i s s₁ T x y hi ⟨h3, t3, m3, r, u, rfl, F, st, hm, hr⟩ ⟨⟨cx, ux, hx, rfl⟩, cy, uy, hy, rfl⟩ hT hf st₁ mv
      obtain ⟨h4, t4, rfl⟩ := mv.shaped
      replace F : Wk hp L h4 h4 m3 [] := F.mv mv (by simp [lz, l1, l3, l4]) a0 (by simp)
      refine asg2 hA'.hd F hT (fun h5 t5 F5 => ?_) rfl rfl rfl rfl
      clear F; rename _ => F
      repeat tb_rel
      refine tq_next ⟨_, _, _, (r ||| (cx.toNat ^^^ cy.toNat)), _, rfl, F.mark, W.frame _ _ ⟨_, g, d, t4, os⟩ st₁ (fun b hb o e => F.Z b o (by rintro rfl; simp [lz, l1, l2, l3, l4] at hb) e) (by simp), (by rw [← bitOr_nat, ← bitXor_nat]; rfl), ?_⟩
      rw [or_xor_zero, hr]
      constructor
      · rintro ⟨⟨q, q1⟩, q2⟩
        refine ⟨q, fun j hj => ?_⟩
        rcases Nat.lt_or_ge j i with hlt | hge
        · exact q1 j hlt
        · obtain rfl : j = i := by omega
          exact hx.trans ((congrArg some (UInt8.toNat_inj.mp q2)).trans hy.symm)
      · rintro ⟨q, q1⟩
        refine ⟨⟨q, fun j hj => q1 j (by omega)⟩, ?_⟩
        exact congrArg UInt8.toNat (Option.some.inj (hx.symm.trans ((q1 i (by omega)).trans hy)))
    · rintro s s₁ ⟨h3, t3, m3, r, u, rfl, F, st, hm, hr⟩ mv
      obtain ⟨h4, t4, rfl⟩ := mv.shaped
      replace F : Wk hp L h4 h4 m3 [] := F.mv mv (by simp [lz, l1, l3, l4]) a0 (by simp)
      repeat tb_rel
      rw [show ((r : Int) == 0) = (b == c) from ?_]
      · exact hQ _ _ F.old
      · rw [Bool.eq_iff_iff]
        simp only [beq_iff_eq]
        constructor
        · intro q
          have q2 := (hr.mp (by omega)).2
          refine Array.ext_getElem? fun j => ?_
          rcases Nat.lt_or_ge j c.size with hlt | hge
          · exact q2 j hlt
          · rw [Array.getElem?_eq_none hge, Array.getElem?_eq_none (by omega)]
        · intro q
          subst q
          have := hr.mpr ⟨rfl, fun _ _ => rfl⟩
          omega
    · exact ⟨_, _, _, 0, _, rfl, (F.kept (keeps_of_mem D)).mark, ⟨nz.1, n2.1, ⟨_, _, n1.1⟩, ⟨_, n4.1, rfl, rfl⟩, ⟨_, n3.1, rfl, rfl⟩⟩, rfl, by simp⟩
  · have hs1 : (((b.size : Nat) : Int) == ((c.size : Nat) : Int)) = false := by simp; omega
    refine br_is false hs1 ?_
    repeat tb_rel
    refine br_is true (by rw [hs1]; rfl) ?_
    repeat tb_rel
    refine up hA' (x_zip_bytes (F.top X) ?_)
    intro h2 t2' z o1 o2 o3 o4 D
    have nz := D.nw _ (List.mem_cons_self ..)
    have n1 := D.nw _ (List.mem_cons_of_mem _ (List.mem_cons_self ..))
    have n2 := D.nw _ (List.mem_cons_of_mem _ (List.mem_cons_of_mem _ (List.mem_cons_self ..)))
    have n3 := D.nw _ (List.mem_cons_of_mem _ (List.mem_cons_of_mem _ (List.mem_cons_of_mem _ (List.mem_cons_self ..))))
    have n4 := D.nw _ (List.mem_cons_of_mem _ (List.mem_cons_of_mem _ (List.mem_cons_of_mem _ (List.mem_cons_of_mem _ (List.mem_cons_self ..)))))
    have ord := D.ord
    simp only [List.map_cons, List.map_nil, List.pairwise_cons, List.mem_cons, List.not_mem_nil, or_false, forall_eq_or_imp, forall_eq, gt_iff_lt] at ord
    obtain ⟨⟨p1, p2, p3, p4⟩, ⟨p5, p6, p7⟩, ⟨p8, p9⟩, p10, -⟩ := ord
    have q1 := Nat.ne_of_gt p1; have q2 := Nat.ne_of_gt p2; have q3 := Nat.ne_of_gt p3; have q4 := Nat.ne_of_gt p4; have q5 := Nat.ne_of_gt p5; have q6 := Nat.ne_of_gt p6; have q7 := Nat.ne_of_gt p7; have q8 := Nat.ne_of_gt p8; have q9 := Nat.ne_of_gt p9; have q10 := Nat.ne_of_gt p10
    dsimp only at nz n1 n2 n3 n4
    refine wpAny_pyIter_zip (z := z) (TI := o2) (TO := o1) nz.1 ?_
    have W := It.zip (w := w) (z := z) (TI := o2) (TO := o1) (It.bytes o4 c t2 c.size rfl) (It.bytes o3 c t2 c.size rfl) (by simp [q1, q2, q3, q4, q5, q6, q7, q8, q9, q10, Ne.symm q1, Ne.symm q2, Ne.symm q3, Ne.symm q4, Ne.symm q5, Ne.symm q6, Ne.symm q7, Ne.symm q8, Ne.symm q9, Ne.symm q10]) (by simp [q1, q2, q3, q4, q5, q6, q7, q8, q9, q10, Ne.symm q1, Ne.symm q2, Ne.symm q3, Ne.symm q4, Ne.symm q5, Ne.symm q6, Ne.symm q7, Ne.symm q8, Ne.symm q9, Ne.symm q10]) (by simp [q1, q2, q3, q4, q5, q6, q7, q8, q9, q10, Ne.symm q1, Ne.symm q2, Ne.symm q3, Ne.symm q4, Ne.symm q5, Ne.symm q6, Ne.symm q7, Ne.symm q8, Ne.symm q9, Ne.symm q10]) (by simp [q1, q2, q3, q4, q5, q6, q7, q8, q9, q10, Ne.symm q1, Ne.symm q2, Ne.symm q3, Ne.symm q4, Ne.symm q5, Ne.symm q6, Ne.symm q7, Ne.symm q8, Ne.symm q9, Ne.symm q10]) (by simp [q1, q2, q3, q4, q5, q6, q7, q8, q9, q10, Ne.symm q1, Ne.symm q2, Ne.symm q3, Ne.symm q4, Ne.symm q5, Ne.symm q6, Ne.symm q7, Ne.symm q8, Ne.symm q9, Ne.symm q10]) (by simp [q1, q2, q3, q4, q5, q6, q7, q8, q9, q10, Ne.symm q1, Ne.symm q2, Ne.symm q3, Ne.symm q4, Ne.symm q5, Ne.symm q6, Ne.symm q7, Ne.symm q8, Ne.symm q9, Ne.symm q10]) (Ne.symm q2) (Ne.symm q1) (Ne.symm q5) (by simp [q1, q2, q3, q4, q5, q6, q7, q8, q9, q10, Ne.symm q1, Ne.symm q2, Ne.symm q3, Ne.symm q4, Ne.symm q5, Ne.symm q6, Ne.symm q7, Ne.symm q8, Ne.symm q9, Ne.symm q10]) (by simp [q1, q2, q3, q4, q5, q6, q7, q8, q9, q10, Ne.symm q1, Ne.symm q2, Ne.symm q3, Ne.symm q4, Ne.symm q5, Ne.symm q6, Ne.symm q7, Ne.symm q8, Ne.symm q9, Ne.symm q10])
    have lz := F.neL nz.2; have l1 := F.neL n1.2; have l2 := F.neL n2.2; have l3 := F.neL n3.2; have l4 := F.neL n4.2
    have a0 : ∀ a ∈ [z, o1] ++ [o4] ++ [o3], ∀ o, hp.get? a ≠ some o := by
      intro a ha
      simp only [List.cons_append, List.nil_append, List.mem_cons, List.not_mem_nil, or_false] at ha
      rcases ha with rfl | rfl | rfl | rfl
      · exact F.no nz.2
      · exact F.no n1.2
      · exact F.no n4.2
      · exact F.no n3.2
    refine for_T W (hA'.less (by omega)) (fun i s => ∃ h3 t3 m3 r u, s = ⟨h3, g, d, t3, os⟩ ∧ Wk hp L h3 h3 m3 [] ∧ (IsZip h3 z o2 o1 .none ∧ IsPair h3 o2 (.ref o4) (.ref o3) ∧ (∃ a b, IsPair h3 o1 a b) ∧ KBw.IsBytesIter h3 o4 c t2 i ∧ KBw.IsBytesIter h3 o3 c t2 i) ∧ m3 "result" = some (.int ((r : Nat) : Int) u) ∧ (r = 0 ↔ 1 = 0 ∧ ∀ j < i, c[j]? = c[j]?)) ?_ ?_ ?_ ?_
    · rintro i s ⟨h3, t3, m3, r, u, rfl, _, st, _⟩
      exact st
    · rintro i s s₁ T x y hi ⟨h3, t3, m3, r, u, rfl, F, st, hm, hr⟩ ⟨⟨cx, ux, hx, rfl⟩, cy, uy, hy, rfl⟩ hT hf st₁ mv
      obtain ⟨h4, t4, rfl⟩ := mv.shaped
      replace F : Wk hp L h4 h4 m3 [] := F.mv mv (by simp [lz, l1, l3, l4]) a0 (by simp)
      refine asg2 hA'.hd F hT (fun h5 t5 F5 => ?_) rfl rfl rfl rfl
      clear F; rename _ => F
      repeat tb_rel
      refine tq_next ⟨_, _, _, (r ||| (cx.toNat ^^^ cy.toNat)), _, rfl, F.mark, W.frame _ _ ⟨_, g, d, t4, os⟩ st₁ (fun b hb o e => F.Z b o (by rintro rfl; simp [lz, l1, l2, l3, l4] at hb) e) (by simp), (by rw [← bitOr_nat, ← bitXor_nat]; rfl), ?_⟩
      rw [or_xor_zero, hr]
      constructor
      · rintro ⟨⟨q, q1⟩, q2⟩
        refine ⟨q, fun j hj => ?_⟩
        rcases Nat.lt_or_ge j i with hlt | hge
        · exact q1 j hlt
        · obtain rfl : j = i := by omega
          exact hx.trans ((congrArg some (UInt8.toNat_inj.mp q2)).trans hy.symm)
      · rintro ⟨q, q1⟩
        refine ⟨⟨q, fun j hj => q1 j (by omega)⟩, ?_⟩
        exact congrArg UInt8.toNat (Option.some.inj (hx.symm.trans ((q1 i (by omega)).trans hy)))
    · rintro s s₁ ⟨h3, t3, m3, r, u, rfl, F, st, hm, hr⟩ mv
      obtain ⟨h4, t4, rfl⟩ := mv.shaped
      replace F : Wk hp L h4 h4 m3 [] := F.mv mv (by simp [lz, l1, l3, l4]) a0 (by simp)
      repeat tb_rel
      rw [show ((r : Int) == 0) = (b == c) from ?_]
      · exact hQ _ _ F.old
      · have e1 : ¬ r = 0 := fun q => by have := (hr.mp q).1; omega
        have e2 : (b == c) = false := by rw [beq_eq_false_iff_ne]; rintro rfl; exact hs rfl
        rw [e2, beq_eq_false_iff_ne]; omega
    · exact ⟨_, _, _, 1, _, rfl, (F.kept (keeps_of_mem D)).mark, ⟨nz.1, n2.1, ⟨_, _, n1.1⟩, ⟨_, n4.1, rfl, rfl⟩, ⟨_, n3.1, rfl, rfl⟩⟩, rfl, by simp⟩
end
end
section
/-- bytes as a number, low first -/
def leN : List UInt8 → Nat
  | [] => 0
  | c :: r => c.toNat + 256 * leN r
def leL : Nat → Nat → List UInt8
  | 0, _ => []
  | k + 1, n => (n % 256).toUInt8 :: leL k (n / 256)
theorem leL_length : ∀ k n, (leL k n).length = k
  | 0, _ => rfl
  | k + 1, n => congrArg (· + 1) (leL_length k (n / 256))
theorem leN_lt : ∀ l : List UInt8, leN l < 256 ^ l.length
  | [] => by decide
  | c :: r => by
    have h := leN_lt r
    have hc : c.toNat < 256 := c.toNat_lt
    show c.toNat + 256 * leN r < 256 ^ (r.length + 1)
    rw [Nat.pow_succ]
    omega
theorem u8_mod (n : Nat) : ((n % 256).toUInt8).toNat = n % 256 := by
  rw [Nat.toUInt8, UInt8.toNat_ofNat']
  omega
theorem leN_leL : ∀ k n, n < 256 ^ k → leN (leL k n) = n
  | 0, n, h => by
    have : n = 0 := by simpa using h
    subst this; rfl
  | k + 1, n, h => by
    show ((n % 256).toUInt8).toNat + 256 * leN (leL k (n / 256)) = n
    rw [leN_leL k (n / 256) (by rw [Nat.pow_succ] at h; omega), u8_mod]
    omega
theorem leN_inj : ∀ l r : List UInt8, l.length = r.length → leN l = leN r → l = r
  | [], [], _, _ => rfl
  | c :: l, d :: r, h, e => by
    have hc : c.toNat < 256 := c.toNat_lt
    have hd : d.toNat < 256 := d.toNat_lt
    have e' : c.toNat + 256 * leN l = d.toNat + 256 * leN r := e
    rw [leN_inj l r (by simpa using h) (by omega), UInt8.toNat_inj.mp (show c.toNat = d.toNat by omega)]
theorem leL_leN (l : List UInt8) (k : Nat) (h : l.length = k) : leL k (leN l) = l :=
  leN_inj _ _ (by rw [leL_length, h]) (leN_leL _ _ (h ▸ leN_lt l))
theorem leN_xor : ∀ l r : List UInt8, l.length = r.length → leN l ^^^ leN r = leN (List.zipWith (· ^^^ ·) l r)
  | [], [], _ => rfl
  | c :: l, d :: r, h => by
    have hc : c.toNat < 256 := c.toNat_lt
    have hd : d.toNat < 256 := d.toNat_lt
    have ih := leN_xor l r (by simpa using h)
    have hx : (c ^^^ d).toNat = c.toNat ^^^ d.toNat := UInt8.toNat_xor c d
    show (c.toNat + 256 * leN l) ^^^ (d.toNat + 256 * leN r) = (c ^^^ d).toNat + 256 * leN (List.zipWith (· ^^^ ·) l r)
    rw [← ih, hx]
    have m := @Nat.xor_mod_two_pow (c.toNat + 256 * leN l) (d.toNat + 256 * leN r) 8
    have q := @Nat.xor_div_two_pow (c.toNat + 256 * leN l) (d.toNat + 256 * leN r) 8
    rw [show (2 : Nat) ^ 8 = 256 from rfl] at m q
    rw [show (c.toNat + 256 * leN l) % 256 = c.toNat by omega, show (d.toNat + 256 * leN r) % 256 = d.toNat by omega] at m
    rw [show (c.toNat + 256 * leN l) / 256 = leN l by omega, show (d.toNat + 256 * leN r) / 256 = leN r by omega] at q
    omega
theorem value_le : ∀ l : List UInt8, KFB.value (l.map fun c => (c.toNat : Int)).reverse = (leN l : Int)
  | [] => rfl
  | c :: r => by
    have ih := value_le r
    unfold KFB.value at ih ⊢
    rw [List.map_cons, List.reverse_cons, List.foldl_append, ih]
    show (leN r : Int) * 256 + (c.toNat : Int) = ((c.toNat + 256 * leN r : Nat) : Int)
    omega
theorem value_be (b : Array UInt8) : KFB.value (KBw.bInts b) = (leN b.toList.reverse : Int) := by
  rw [← value_le]
  unfold KBw.bInts
  rw [List.map_reverse, List.reverse_reverse]
theorem little_leL : ∀ k (n : Nat), KTBy.little k (n : Int) = (leL k n).map fun c => (c.toNat : Int)
  | 0, _ => rfl
  | k + 1, n => by
    show (n : Int) % 256 :: KTBy.little k ((n : Int) / 256) = (((n % 256).toUInt8).toNat : Int) :: (leL k (n / 256)).map fun c => (c.toNat : Int)
    rw [← little_leL k (n / 256), u8_mod]
    rfl
theorem map_u8_inj : ∀ l r : List UInt8, (l.map fun c => (c.toNat : Int)) = (r.map fun c => (c.toNat : Int)) → l = r
  | [], [], _ => rfl
  | [], _ :: _, h => by cases h
  | _ :: _, [], h => by cases h
  | c :: l, d :: r, h => by
    rw [List.map_cons, List.map_cons, List.cons.injEq] at h
    rw [map_u8_inj l r h.2, UInt8.toNat_inj.mp (Int.ofNat.inj h.1)]
theorem bInts_inj {b : Array UInt8} {l : List UInt8} (h : KBw.bInts b = l.map fun c => (c.toNat : Int)) : b = l.toArray := by
  unfold KBw.bInts at h
  have : b.toList = l := map_u8_inj _ _ h
  rw [← this]
section
variable {w : World} {A : Around} {n : Nat} {E : Value → Shared → Prop} {Q : Value → Shared → Prop} {hp : Heap} {g : Array GenState} {d : Drawn} {t : Nat} {os : OsState}
theorem b2i_ok {b : Array UInt8} {t1 : Tok} (hA : AOk A 4) (X : Top w hp) (hl : b.size ≤ 8)
   (hQ : ∀ h' t' tk, Keeps hp h' → Q (.int (leN b.toList.reverse : Int) tk) ⟨h', g, d, t', os⟩) :
   wpAny (model pg w) A (call (.ref 48) [.bytes b t1]) Q E ⟨hp, g, d, t, os⟩ := by
  refine call_fn' (n := 2) (binds := [("value", .bytes b t1)]) hA X fn48 (by rfl) (by decide) (by rfl) (locs (by rfl)) ?_
  intro h₁ t₁ L F hA'
  refine s_cons ?_
  repeat tb_rel
  refine MethodCall_ ?_ (by rfl)
  repeat tb_rel
  refine KFB.getm F.F F.N X (by kernel_rfl) ?_
  intro x h' F' N' _
  have F := Wk.of F' N'
  dsimp only
  refine KFB.callWith_bound F.N (List.mem_cons_self ..) ?_
  repeat tb_rel
  refine And.intro (KFB.at_of F.N (List.mem_cons_self ..)) ?_
  refine KFB.call_big F.N (List.mem_cons_self ..) (ks := KBw.bInts b) rfl (by rw [KBw.ints_length]; exact hl) ?_
  intro t' k
  repeat tb_rel
  rw [value_be]
  exact hQ _ _ _ F.old
theorem i2b_ok {x k : Nat} {t1 t2 : Tok} (hA : AOk A 4) (X : Top w hp) (hk : k ≤ 8) (hx : x < 256 ^ k)
   (hQ : ∀ h' t' tk, Keeps hp h' → Q (.bytes (leL k x).reverse.toArray tk) ⟨h', g, d, t', os⟩) :
   wpAny (model pg w) A (call (.ref 55) [.int (x : Int) t1, .int (k : Int) t2]) Q E ⟨hp, g, d, t, os⟩ := by
  refine call_fn' (n := 2) (binds := [("value", .int (x : Int) t1), ("count", .int (k : Int) t2)]) hA X fn55 (by rfl) (by decide) (by rfl) (locs (by rfl)) ?_
  intro h₁ t₁ L F hA'
  refine s_cons ?_
  repeat tb_rel
  refine MethodCall_ ?_ (by rfl)
  repeat tb_rel
  refine KTBy.method ?_
  dsimp only
  refine callWith_method1 ?_
  repeat tb_rel
  refine KTBy.to_big (B := 256 ^ k) hk rfl (by omega) (by rw [KTBy.p256]; exact Int.ofNat_lt.mpr hx) ?_
  intro b t' k' e _
  repeat tb_rel
  rw [little_leL, ← List.map_reverse] at e
  rw [bInts_inj e]
  exact hQ _ _ _ F.old
theorem xor_ok {b c : Array UInt8} {t1 t2 : Tok} (hA : AOk A 8) (X : Top w hp) (hs : b.size = c.size) (hl : b.size ≤ 8)
   (hQ : ∀ h' t' tk, Keeps hp h' → Q (.bytes (List.zipWith (· ^^^ ·) b.toList c.toList).toArray tk) ⟨h', g, d, t', os⟩) :
   wpAny (model pg w) A (call (.ref 62) [.bytes b t1, .bytes c t2]) Q E ⟨hp, g, d, t, os⟩ := by
  refine call_fn' (n := 6) (binds := [("left", .bytes b t1), ("right", .bytes c t2)]) hA X fn62 (by rfl) (by decide) (by rfl) (locs (by rfl)) ?_
  intro h₁ t₁ L F hA'
  refine s_cons ?_
  repeat tb_rel
  refine b2i_ok (hA'.less (by omega)) (F.top X) hl ?_
  lcg_src
  repeat tb_rel
  refine b2i_ok (hA'.less (by omega)) (F.top X) (hs ▸ hl) ?_
  lcg_src
  repeat tb_rel
  refine up hA' (x_len_bytes (F.top X) (by omega) ?_)
  lcg_src
  repeat tb_rel
  have e : leN b.toList.reverse ^^^ leN c.toList.reverse = leN (List.zipWith (· ^^^ ·) b.toList c.toList).reverse := by
    rw [leN_xor _ _ (by simp [hs]), List.reverse_zipWith (by simp [hs])]
  rw [bitXor_nat, e]
  have hz : (List.zipWith (· ^^^ ·) b.toList c.toList).length = b.size := by simp [hs]
  refine i2b_ok (hA'.less (by omega)) (F.top X) hl (by have := leN_lt (List.zipWith (· ^^^ ·) b.toList c.toList).reverse; rw [List.length_reverse, hz] at this; exact this) ?_
  lcg_src
  repeat tb_rel
  rw [leL_leN _ _ (by rw [List.length_reverse, hz]), List.reverse_reverse]
  exact hQ _ _ _ F.old
end
end
section
def cutL {α : Type} (l : List α) (lo hi : Option Int) : List α := (l.drop (lo.elim 0 (clipAt l.length))).take (hi.elim l.length (clipAt l.length) - lo.elim 0 (clipAt l.length))
def TailSl (M : Model) (A : Around) (E : Value → Shared → Prop) (value slice : PySem.Expr) (o l u : Value) (Q : Value → Shared → Prop) (s : Shared) : Prop :=
  wpAny M A (subscriptTail value slice o (.ref s.heap.objs.size)) Q E { s with heap := s.heap.push { cls := .type "slice", data := .fields #[l, u, .none] } }
section
variable {w : World} {A : Around} {M : Model} {n : Nat} {E : Value → Shared → Prop} {Q : Value → Shared → Prop} {hp : Heap} {g : Array GenState} {d : Drawn} {t : Nat} {os : OsState} {env : Env} {s : Shared} {t1 t2 : Tok}
theorem part0 (k : Q .none s) : wpAny M A (evalPart none env) Q E s := wpAny_pure k
theorem part1 {e : PySem.Expr} (k : wpAny M A (eval e env) Q E s) : wpAny M A (evalPart (some e) env) Q E s := k
theorem sub_sl {value : PySem.Expr} {lo up : Option PySem.Expr} {p pos : Pos}
    (k : wpAny M A (eval value env) (fun o s₁ => wpAny M A (evalPart lo env) (fun l s₂ => wpAny M A (evalPart up env) (fun u s₃ => TailSl M A E value (.Slice lo up none p) o l u Q s₃) E s₂) E s₁) E s) :
    wpAny M A (eval (.Subscript value (.Slice lo up none p) pos) env) Q E s := by
  refine Subscript_ (wpAny_mono k (fun o s₁ h₁ => wpAny_Slice ?_) fun _ _ x => x)
  refine wpAny_mono h₁ (fun l s₂ h₂ => wpAny_mono h₂ (fun u s₃ h₃ => ?_) fun _ _ x => x) fun _ _ x => x
  exact wpAny_pure h₃
theorem sub_ix {value slice : PySem.Expr} {pos : Pos}
    (k : wpAny M A (eval value env) (fun o s₁ => wpAny M A (eval slice env) (fun i s₂ => wpAny M A (subscriptTail value slice o i) Q E s₂) E s₁) E s) :
    wpAny M A (eval (.Subscript value slice pos) env) Q E s := Subscript_ k
theorem tl_B {value slice : PySem.Expr} {b : Array UInt8} {l u : Value} {lo hi : Option Int} (hl : IsPart l lo) (hu : IsPart u hi) (hz : b.size ≤ 16777216)
    (k : ∀ h' t' u', Keeps hp h' → Q (.bytes (cutL b.toList lo hi).toArray u') ⟨h', g, d, t', os⟩)
    (hs : ∀ r, subscripted slice false (.bytes b t1) (.ref r) = operate [.ref r, .bytes b t1] (getItem (.bytes b t1) (.ref r)))
    (ht : ∀ r, letTemporaryGo value (.bytes b t1) r = pure ()) :
    TailSl (model pg w) A E value slice (.bytes b t1) l u Q ⟨hp, g, d, t, os⟩ := by
  refine tail_of_ItemOn (ops := [.ref _, .bytes b t1]) ⟨"bytes", _, FB.slot_bytes_getitem.lookup, typeIs_bytes _ _ _, getItem_meets (typeIs_bytes _ _ _) (by decide) FB.slot_bytes_getitem FB.entry_bytes_getitem (FB.args_bytes_getitem_2 _ _) (KBc.meets_slice2 b t1 _ hl hu)
    ⟨Heap.IsSliceOf.new _ _ _ _, Nat.le_trans (KBc.size_picked_le b lo hi) (by rw [sizeLine_eq]; exact hz), fun t' k' => ?_⟩⟩ (hs _) ht
  rw [KBc.picked_eq]
  have := k (hp.push { cls := .type "slice", data := .fields #[l, u, .none] }) k' t' (fun b o e => Heap.get?_push_of_some _ e)
  unfold cutL at this
  rw [Array.length_toList] at this
  exact this
theorem b_add {b c : Array UInt8} (hz : b.size + c.size ≤ 16777216) (k : ∀ x y, Q (.bytes (b ++ c) x) ⟨hp, g, d, y, os⟩) :
    wpAny (model pg w) A (binaryOp .Add (.bytes b t1) (.bytes c t2)) Q E ⟨hp, g, d, t, os⟩ := KBy.add_bytes hz fun x y => k x y
theorem b_truth {b : Array UInt8} {Q : Bool → Shared → Prop} (hz : b.size ≤ 1099511627776) (k : ∀ y, Q ((b.size : Int) != 0) ⟨hp, g, d, y, os⟩) :
    wpAny (model pg w) A (truthy (.bytes b t1)) Q E ⟨hp, g, d, t, os⟩ := truthy_bytes hz (k _)
theorem b_mul {b : List UInt8} {n : Int} (hb : b ≠ []) (hlo : -1048576 ≤ n) (hn : n ≤ 1048576) (hs : b.length ≤ 16) (k : ∀ x y, Q (.bytes ((List.replicate n.toNat b).flatten).toArray x) ⟨hp, g, d, y, os⟩) :
    wpAny (model pg w) A (binaryOp .Mult (.bytes b.toArray t1) (.int n t2)) Q E ⟨hp, g, d, t, os⟩ := bytes_mul_any hb hlo hn hs fun x y => k x y
end
def BrE (M : Model) (A : Around) (E : Value → Shared → Prop) (env : Env) (a b : PySem.Expr) (Q : Value → Shared → Prop) : Bool → Shared → Prop := fun c s => match c with
  | true => wpAny M A (eval a env) Q E s
  | false => wpAny M A (eval b env) Q E s
section
variable {w : World} {A : Around} {M : Model} {E : Value → Shared → Prop} {Q : Value → Shared → Prop} {env : Env} {s : Shared}
theorem s_ifx {test a b : PySem.Expr} {pos : Pos} (k : wpAny M A (isTrue test env (eval test env)) (BrE M A E env a b Q) E s) : wpAny M A (eval (.IfExp test a b pos) env) Q E s :=
  wpAny_IfExp (wpAny_mono k (fun c s' q => by cases c <;> exact q) fun _ _ q => q)
theorem brE_t {a b : PySem.Expr} (k : wpAny M A (eval a env) Q E s) : BrE M A E env a b Q true s := k
theorem brE_f {a b : PySem.Expr} (k : wpAny M A (eval b env) Q E s) : BrE M A E env a b Q false s := k
theorem brE_is {a b : PySem.Expr} {c : Bool} (c' : Bool) (e : c = c') (k : BrE M A E env a b Q c' s) : BrE M A E env a b Q c s := e ▸ k
theorem is_nn (k : Q (.bool true) s) : wpAny M A (compareOp .Is .none .none) Q E s := wpAny_is_self rfl k
end
section
variable {w : World} {A : Around} {n : Nat} {E : Value → Shared → Prop} {Q : Value → Shared → Prop} {hp : Heap} {g : Array GenState} {d : Drawn} {t : Nat} {os : OsState}
/-- the first k of a word said over and over -/
def cycle (l : List UInt8) (k : Nat) : List UInt8 := ((List.range k).map fun i => l.getD (i % l.length) 0)
theorem repeat_raw {l : List UInt8} {k : Nat} {t1 t2 : Tok} (hA : AOk A 8) (X : Top w hp) (h0 : l ≠ []) (hl : l.length ≤ 3) (hk0 : 1 ≤ k) (hk : k ≤ 6)
   (hQ : ∀ h' t' tk, Keeps hp h' → Q (.bytes (cutL (List.replicate (1 + ((k : Int) - 1).fdiv (l.length : Int)).toNat l).flatten none (some k)).toArray tk) ⟨h', g, d, t', os⟩) :
   wpAny (model pg w) A (call (.ref 69) [.bytes l.toArray t1, .int (k : Int) t2]) Q E ⟨hp, g, d, t, os⟩ := by
  refine call_fn' (n := 6) (binds := [("source", .bytes l.toArray t1), ("size", .int (k : Int) t2)]) hA X fn69 (by rfl) (by decide) (by rfl) (locs (by rfl)) ?_
  intro h₁ t₁ L F hA'
  refine s_cons ?_
  repeat tb_rel
  refine up hA' (x_len_bytes (F.top X) (by simp; omega) ?_)
  lcg_src
  have hl0 : 0 < l.length := List.length_pos_iff.mpr h0
  rw [List.size_toArray]
  refine i_div (by omega) (by omega) ?_
  intro _ _
  have hb1 : 0 ≤ ((k : Int) - 1).fdiv (l.length : Int) := Int.fdiv_nonneg (by omega) (by omega)
  have hb2 : ((k : Int) - 1).fdiv (l.length : Int) ≤ 6 := by
    rw [Int.fdiv_eq_ediv_of_nonneg _ (by omega)]
    exact Int.le_trans (Int.ediv_le_self _ (by omega)) (by omega)
  repeat tb_rel
  refine sub_sl ?_
  repeat tb_rel
  refine b_mul h0 (by omega) (by omega) (by omega) ?_
  intro _ _
  refine part0 ?_
  refine part1 ?_
  repeat tb_rel
  refine tl_B .none (.int _ _) ?_ ?_ (by intro _; with_unfolding_all rfl) (by intro _; with_unfolding_all rfl)
  · rw [List.size_toArray, List.length_flatten, List.map_replicate, List.sum_replicate_nat]
    have : (1 + ((k : Int) - 1).fdiv (l.length : Int)).toNat ≤ 7 := by omega
    have := Nat.mul_le_mul this hl
    omega
  lcg_src
  repeat tb_rel
  exact hQ _ _ _ F.old
end

theorem call_fnB {w : World} {A : Around} {n : Nat} {E : Value → Shared → Prop} {h : Heap} {g : Array GenState} {d : Drawn} {t : Nat} {os : OsState} {Q : Value → Shared → Prop} {f : Addr} {fd : FuncData} {body : List Stmt} {vals : List Value} {binds : List (Str × Value)} (hA : AOk A (n + 2)) (X : Top w h) (FA : FnAt f fd body)
    (hbind : BindsTo ⟨h, g, d, t, os⟩ fd ⟨vals, []⟩ binds) (hcell : ∀ x ∈ fd.scope.names, x.2 ≠ .cell) (hgen : fd.scope.isGenerator = false) (hloc : ∀ x ∈ binds, fd.scope.names.lookup x.1 = some .local)
    (k : ∀ h₁ t₁ L, Wk h L h₁ h₁ (fun x => binds.reverse.lookup x) [] → AOk (A.deeper (envX fd.qualname fd.scope L f fd.code [])) n →
      wpAny (model pg w) (A.deeper (envX fd.qualname fd.scope L f fd.code [])) (execs body (envX fd.qualname fd.scope L f fd.code [])) (RetQ Q) (fun _ _ => False) ⟨h₁, g, d, t₁, os⟩) :
    wpAny (model pg w) A (call (.ref f) vals) Q E ⟨h, g, d, t, os⟩ := by
  refine wpAny_call ?_
  refine codeAny_call_def (binds := binds) hA.room (X f _ (FA.at' w.params)) rfl (noLimit X) (codeRec_of X (FA.code w.params)) FA.body hbind hcell hloc ?_ FA.nco hgen FA.kind
  intro h₀ hns hk
  rw [FA.env]
  refine wpAny_mono (k h₀ _ h.objs.size ⟨⟨hns, hk, Nat.le_refl _⟩, News.nil, fun _ _ _ e => e⟩ ((hA.less (by omega)).deeper _)) (fun fl s' q => q) (fun _ _ q => q.elim)
end
end
section
local macro_rules | `(tactic| x_close) => `(tactic| first
  | exact $(Lean.mkIdent `hk) _ _ Keeps.refl
  | exact $(Lean.mkIdent `hk) _ _ (keeps_of_mem (by assumption))
  | exact $(Lean.mkIdent `hk) _ _ _ Keeps.refl
  | exact $(Lean.mkIdent `hk) _ _ _ (keeps_of_mem (by assumption))
  | (apply $(Lean.mkIdent `hk); assumption)
  | (exact $(Lean.mkIdent `hk) _ _ _ (keeps_of_mem (by assumption)) (X.Mem.nw (by assumption) _ (List.mem_cons_self ..)).1 (X.Mem.nw (by assumption) _ (List.mem_cons_self ..)).2)
)
local macro_rules | `(tactic| lcg_off) => `(tactic| (intro $(Lean.mkIdent `h) _ $(Lean.mkIdent `k); replace $(Lean.mkIdent `F) := Wk.kept $(Lean.mkIdent `F) $(Lean.mkIdent `k); clear $(Lean.mkIdent `k)))
local macro_rules | `(tactic| lcg_src) => `(tactic| (intro $(Lean.mkIdent `h) _ _ $(Lean.mkIdent `k); replace $(Lean.mkIdent `F) := Wk.kept $(Lean.mkIdent `F) $(Lean.mkIdent `k); clear $(Lean.mkIdent `k)))
local macro_rules | `(tactic| tb_rel) => `(tactic| first
  | (with_reducible show wpAny _ _ (eval (Expr.Name _ _) _) _ _ _; first
      | with_reducible refine wL $(Lean.mkIdent `F) (by with_unfolding_all first | rfl | assumption) ?_ (by with_unfolding_all rfl) (by with_unfolding_all rfl) (by with_unfolding_all rfl) (by with_unfolding_all decide)
      | with_reducible refine wGl $(Lean.mkIdent `X) $(Lean.mkIdent `F) (by with_unfolding_all rfl) ?_ (by with_unfolding_all rfl) (by with_unfolding_all rfl) (by with_unfolding_all rfl) (by with_unfolding_all rfl) (by with_unfolding_all decide))
  | (with_reducible show wpAny _ _ (eval _ _) _ _ _; first
      | with_reducible refine sub_sl ?_
      | with_reducible refine e_int ?_
      | with_reducible refine e_str ?_
      | with_reducible refine e_bool ?_
      | with_reducible refine e_none ?_
      | with_reducible refine wpAny_BinOp ?_
      | with_reducible refine wpAny_Compare1 ?_
      | with_reducible refine wpAny_UnaryOp ?_
      | with_reducible refine callN ?_
      | with_reducible refine sub_ix ?_
      | with_reducible refine s_ifx ?_
      | with_reducible refine Attribute_name ?_)
  | (with_reducible show wpAny _ _ (execs _ _) _ _ _; first
      | with_reducible refine s_cons ?_
      | with_reducible refine s_nil ?_)
  | (with_reducible show wpAny _ _ (exec _ _) _ _ _; first
      | with_reducible refine s_if ?_
      | with_reducible refine wpAny_Return_some ?_
      | with_reducible refine wpAny_Assign_Name ?_ (by with_unfolding_all rfl)
      | with_reducible refine wpAny_AugAssign_Name ?_
      | with_reducible refine s_for ?_ (by intro _; with_unfolding_all rfl)
      | with_reducible refine s_expr ?_)
  | (with_reducible show wpAny _ _ (storeName _ _ _) _ _ _; first
      | (with_reducible refine wstL $(Lean.mkIdent `F) ?_ (by with_unfolding_all rfl) (by with_unfolding_all rfl) (by with_unfolding_all rfl); clear $(Lean.mkIdent `F); intro _ _ $(Lean.mkIdent `F)))
  | (with_reducible show wpAny _ _ (loadName _ _) _ _ _; first
      | with_reducible refine wldL $(Lean.mkIdent `F) (by with_unfolding_all first | rfl | assumption) ?_ (by with_unfolding_all rfl) (by with_unfolding_all rfl) (by with_unfolding_all rfl))
  | (with_reducible show wpAny _ _ (spliced _) _ _ _; first
      | with_reducible refine wpAny_items_cons ?_ (by with_unfolding_all rfl)
      | with_reducible refine wpAny_items_nil ?_)
  | (with_reducible show wpAny _ _ (callWith _ _ _ _ _) _ _ _; first
      | with_reducible refine callB ?_ (by with_unfolding_all rfl) (by with_unfolding_all rfl)
      | with_reducible refine callT ?_ (by with_unfolding_all rfl) (by with_unfolding_all rfl)
      | with_reducible refine callKn $(Lean.mkIdent `X) (by kernel_rfl) ?_ (by with_unfolding_all rfl) (by with_unfolding_all rfl))
  | (with_reducible show wpAny _ _ (isTrue _ _ _) _ _ _; first
      | with_reducible refine wpAny_isTrue_Compare1 ?_
      | with_reducible refine wpAny_isTrue_Not ?_
      | with_reducible refine wpAny_isTrue_BoolOp ?_
      | with_reducible refine wpAny_isTrue_value ?_ (by with_unfolding_all rfl))
  | (with_reducible show wpAny _ _ (truthy _) _ _ _; first
      | with_reducible refine t_bool ?_
      | with_reducible refine t_int ?_)
  | (with_reducible show wpAny _ _ (compareOp _ _ _) _ _ _; first
      | with_reducible refine i_eq ?_
      | with_reducible refine i_ne ?_
      | with_reducible refine i_lt ?_
      | with_reducible refine i_gt ?_
      | with_reducible refine i_ge ?_
      | with_reducible refine is_nn ?_)
  | (with_reducible show wpAny _ _ (binaryOp _ _ _) _ _ _; first
      | (with_reducible refine i_add ?_; intro _ _)
      | (with_reducible refine i_sub ?_; intro _ _)
      | (with_reducible refine i_and ?_; intro _ _)
      | (with_reducible refine i_or ?_; intro _ _)
      | (with_reducible refine i_xor ?_; intro _ _))
  | (with_reducible show wpAny _ _ (inplaceOp _ _ _) _ _ _; first
      | (with_reducible refine i_iand ?_; intro _ _)
      | (with_reducible refine i_ior ?_; intro _ _)
      | (with_reducible refine i_iadd ?_; intro _ _))
  | (with_reducible show wpAny _ _ (unaryOp _ _) _ _ _; first
      | (with_reducible refine i_neg ?_; intro _ _)
      | (with_reducible refine i_inv ?_; intro _ _))
  | (with_reducible show wpAny _ _ (evalPart _ _) _ _ _; first
      | with_reducible refine part0 ?_
      | with_reducible refine part1 ?_)
  | with_reducible refine br_t ?_
  | with_reducible refine br_f ?_
  | with_reducible refine br_nt ?_
  | with_reducible refine br_nf ?_
  | with_reducible refine then_next ?_
  | with_reducible refine then_ret ?_
  | with_reducible refine retQ ?_
  | with_reducible refine And.intro (fun _ => Wk.top $(Lean.mkIdent `F) $(Lean.mkIdent `X)) ?_
  | with_reducible refine brE_t ?_
  | with_reducible refine brE_f ?_)
section
theorem gl__BNULL : GlobIs "_BNULL" (.bytes #[0] 264) := fun P => .inl (by kernel_rfl)
theorem d70 : ∀ P, (K1 P).lookup 70 = some ⟨.type "tuple", none, .seq #[.none] 0, #[]⟩ := fun P => by kernel_rfl
section
variable {w : World} {A : Around} {n : Nat} {E : Value → Shared → Prop} {Q : Value → Shared → Prop} {hp : Heap} {g : Array GenState} {d : Drawn} {t : Nat} {os : OsState}
/-- cut or filled with zeros -/
def padTo (l : List UInt8) (k : Nat) : List UInt8 := l.take k ++ List.replicate (k - l.length) 0
theorem pad_ok {b : Array UInt8} {k : Nat} {t1 t2 : Tok} (hA : AOk A 8) (X : Top w hp) (hb : b.size ≤ 4096) (hk : k ≤ 4096)
   (hQ : ∀ h' t' tk, Keeps hp h' → Q (.bytes (padTo b.toList k).toArray tk) ⟨h', g, d, t', os⟩) :
   wpAny (model pg w) A (call (.ref 77) [.bytes b t1, .int (k : Int) t2]) Q E ⟨hp, g, d, t, os⟩ := by
  refine call_fnB (n := 6) (binds := [("source", .bytes b t1), ("size", .int (k : Int) t2), ("pad", .none)]) hA X fn77 (BindsTo.of_defaults (T := 70) (items := #[.none]) rfl (X _ _ (d70 w.params)) rfl rfl rfl) (by decide) (by rfl) (locs (by rfl)) ?_
  intro h₁ t₁ L F hA'
  refine s_cons ?_
  repeat tb_rel
  refine up hA' (x_len_bytes (F.top X) hb ?_)
  lcg_src
  repeat tb_rel
  by_cases hs : b.size < k
  · refine br_is true (by simp; omega) ?_
    repeat tb_rel
    refine up hA' (x_isinst_bytes_str (F.top X) ?_)
    lcg_off
    repeat tb_rel
    refine wG gl__BNULL X F ?_ rfl rfl rfl rfl (by decide)
    repeat tb_rel
    refine b_mul (b := [0]) (by simp) (by omega) (by omega) (by decide) ?_
    intro _ _
    have e : (List.replicate ((k : Int) - (b.size : Int)).toNat [(0 : UInt8)]).flatten = List.replicate (k - b.size) 0 := by
      rw [show ((k : Int) - (b.size : Int)).toNat = k - b.size by omega]
      generalize k - b.size = n
      induction n with
      | zero => rfl
      | succ n ih => rw [List.replicate_succ, List.flatten_cons, ih]; rfl
    rw [e]
    refine b_add (by simp; omega) ?_
    intro x y
    repeat tb_rel
    have e2 : b ++ (List.replicate (k - b.size) (0 : UInt8)).toArray = (padTo b.toList k).toArray := by
      unfold padTo
      rw [List.take_of_length_le (by rw [Array.length_toList]; omega), Array.length_toList]
      apply Array.ext'
      simp
    rw [e2]
    exact hQ _ _ _ F.old
  · refine br_is false (by simp; omega) ?_
    repeat tb_rel
    refine tl_B .none (.int _ _) (by omega) ?_ (by intro _; with_unfolding_all rfl) (by intro _; with_unfolding_all rfl)
    lcg_src
    repeat tb_rel
    have e2 : cutL b.toList none (some (k : Int)) = padTo b.toList k := by
      unfold cutL padTo
      simp only [Option.elim, List.drop_zero, Nat.sub_zero, clipAt_nat, Array.length_toList]
      rw [show k - b.size = 0 by omega, List.replicate_zero, List.append_nil, Nat.min_eq_left (by omega)]
    rw [e2]
    exact hQ _ _ _ F.old
end
end
section
def wrapObj (id : String) (self : Value) : Obj := ⟨.type "method-wrapper", none, .fields #[.builtin id, self], #[]⟩
def FinQ (Q : Value → Shared → Prop) : Fin → Shared → Prop := fun fin s => match fin with
  | .done (.ret v) => Q v s
  | _ => False
section
variable {w : World} {A : Around} {n : Nat} {E : Value → Shared → Prop} {Q : Value → Shared → Prop} {s : Shared}
theorem call_wrapH {q : Addr} {id : String} {self : Value} {args : List Value} {b : Builtin} (ho : s.heap.get? q = some (wrapObj id self)) (hc : ∀ (A : Around) (E : Value → Shared → Prop) (Q : Unit → Shared → Prop), Q () s → wpAny (model pg w) A (checkBoundCall id ⟨self :: args, []⟩) Q E s) (hq : plainId id = true) (hb : entryFor table id = some b)
    (k : wpAny (model pg w) A.in1 (b ⟨self :: args, []⟩) (FinQ Q) E s) : wpAny (model pg w) A (call (.ref q) args) Q E s := by
  refine wpAny_call (codeAny_of_tree ?_)
  show wpAny _ A.in1 (callAny (.ref q) ⟨args, []⟩) _ _ s
  simp only [callAny]
  refine wpAny_bind (wpAny_load ho ?_)
  simp only [wrapObj, show (Value.type "method-wrapper" == Value.type "method" || Value.type "method-wrapper" == Value.type "builtin_function_or_method" || Value.type "method-wrapper" == Value.type "method-wrapper") = true by decide, if_true]
  refine KFB.if_so (by decide) ?_
  refine wpAny_bind (hc _ _ _ ?_)
  refine wpAny_bind (wpAny_pure (wpAny_pure ?_))
  refine ⟨plainId_quiet hq _, codeAny_builtin hb ?_⟩
  rw [Around.under_plainId hq]
  refine wpAny_mono k (fun fin s' h => ?_) fun _ _ h => h
  cases fin with
  | done f => cases f with
    | ret v => exact h
    | _ => exact h.elim
  | again c => exact h.elim
theorem call_wrap {q : Addr} {id : String} {self : Value} {args : List Value} {b : Builtin} (ho : s.heap.get? q = some (wrapObj id self)) (hc : checkBoundCall id ⟨self :: args, []⟩ = pure ()) (hq : plainId id = true) (hb : entryFor table id = some b)
    (k : wpAny (model pg w) A.in1 (b ⟨self :: args, []⟩) (FinQ Q) E s) : wpAny (model pg w) A (call (.ref q) args) Q E s := call_wrapH ho (fun _ _ _ h => wpAny_of_eq hc h) hq hb k
theorem callWith_wrap {q : Addr} {id : String} {self : Value} {pos : Pos} {env : Env} {e : PySem.Expr} {rest : List PySem.Expr} 
    (k : wpAny (model pg w) A (spliced (backTo pos (starEach (e :: rest) env))) (fun vs s₁ => s₁.heap.get? q = some (wrapObj id self) ∧ wpAny (model pg w) A (call (.ref q) vs) Q E s₁) E s)
    (he : starEach (e :: rest) env = (false, eval e env) :: starEach rest env) (hplain : (backTo pos (starEach rest env)).any (·.1) = false) :
    wpAny (model pg w) A (callWith pos (.ref q) [] (backTo pos (starEach (e :: rest) env)) []) Q E s := by
  refine callWith_of (P := fun h => h.get? q = some (wrapObj id self)) (by rw [he]; show ((false || (backTo pos (starEach rest env)).any (·.1)) || false) = false; rw [hplain]; rfl) (fun h e => ⟨.machine, .inr (.inl rfl), (Looks.ld e).andThen .now⟩) (by rw [he] at k ⊢; exact evalArgs_plain k)
theorem callWith_wrap0 {q : Addr} {id : String} {self : Value} {pos : Pos} {env : Env} (ho : s.heap.get? q = some (wrapObj id self)) (k : wpAny (model pg w) A (call (.ref q) []) Q E s) :
    wpAny (model pg w) A (callWith pos (.ref q) [] (backTo pos (starEach [] env)) []) Q E s :=
  callWith_of (P := fun h => h.get? q = some (wrapObj id self)) rfl (fun h e => ⟨.machine, .inr (.inl rfl), (Looks.ld e).andThen .now⟩) (evalArgs_nil3 ⟨ho, k⟩)
end
end
section
abbrev AN (c : Nat) : Around := { handled := none, depth := 600 - c, frames := none, guards := none, units := 400 - 8 * c }
theorem in_AN {Γ : Ctx} {A : Around} {n : Nat} (a : AOk A n) (h : Γ.In A) : Γ.In (AN n) := by
  refine ⟨h.1.trans a.hd, ?_, fun l e => (nomatch e), fun l e => (nomatch e), ?_⟩
  · have := h.2.1; have := a.dp; show _ ≤ 600 - n; omega
  · have := h.2.2.2.2; have := a.un; show _ ≤ 400 - 8 * n; omega
theorem upN {α : Type} {M : Model} {A : Around} {n : Nat} {t : Sem α} {Q : α → Shared → Prop} {E : Value → Shared → Prop} {s : Shared} (a : AOk A n) (h : wpAny M (AN n) t Q E s) : wpAny M A t Q E s :=
  fun Γ p hΓ => h Γ p (in_AN a hΓ)
theorem aok_AN {c : Nat} (h : c ≤ 50) : AOk (AN c) c := ⟨rfl, by show 600 - c + c ≤ 600; omega, by show 400 - 8 * c + 8 * c ≤ 400; omega⟩
def Still (fp : List Addr) (h h' : Heap) : Prop := ∀ b ∈ fp, ∀ o, h.get? b = some o → h'.get? b = some o
theorem Still.refl {fp : List Addr} {h : Heap} : Still fp h h := fun _ _ _ e => e
theorem Still.trans {fp : List Addr} {a b c : Heap} (x : Still fp a b) (y : Still fp b c) : Still fp a c := fun _ q _ e => y _ q _ (x _ q _ e)
/-- what a generator hands out -/
def GY (N : Nat) (P : Nat → Value → Prop) (fp wr : List Addr) : Protocol := fun n s₀ v s₁ kap => ∃ i, i + (n + 1) = N ∧ P i v ∧ Mv wr [] s₀ s₁ ∧ ∀ s'' : Shared, Still fp s₁.heap s''.heap → kap (.send .none) s''
def GR (wr : List Addr) : GenEnd := fun n s₀ r s₁ => n = 0 ∧ r = .ok (.ret .none) ∧ Mv wr [] s₀ s₁
structure GSt (w : World) (c : Nat) (I : Addr) (g N : Nat) (P : Nat → Value → Prop) (fp wr : List Addr) (i : Nat) (s : Shared) : Prop where
  le : i ≤ N
  gen : s.heap.IsGen I g
  two : s.heap.get? 2 = some ⟨.none, none, .dict #[] 0, #[]⟩
  live : ∀ b ∈ wr, ∃ o, s.heap.get? b = some o
  go : ∃ gs s0, s.gens[g]? = some gs ∧ Still fp s0 s.heap ∧ ∀ s'' : Shared, Still fp s0 s''.heap → gs.Goes (model pg w) (AN c) (GR wr) (GY N P fp wr) (N - i) (.send .none) s''
theorem noLimit2 {h : Heap} (e : h.get? 2 = some ⟨.none, none, .dict #[] 0, #[]⟩) : h.NoLimit := ⟨fun _ => none, ⟨_, _, _, e, rfl, fun e he => (by simp at he), fun _ => rfl⟩, rfl⟩
theorem Mv.setGen {wr : List Addr} {g : Nat} {s s₁ : Shared} {x y : GenState} (m : Mv wr [] (s.setGen g x) s₁) (hy : y.bare = true) (hx : x.bare = true := by rfl) : Mv wr [g] s (s₁.setGen g y) where
  keep := m.keep
  live := m.live
  gsz := by
    have := m.gsz
    show (s₁.gens.setIfInBounds g y).size = _
    rw [Array.size_setIfInBounds, this]
    show (s.gens.setIfInBounds g x).size = _
    rw [Array.size_setIfInBounds]
  gens := fun j hj => by
    have hj : j ≠ g := fun e => hj (by simp [e])
    show (s₁.gens.setIfInBounds g y)[j]? = _
    rw [Array.getElem?_setIfInBounds_ne (Ne.symm hj), m.gens j (by simp)]
    show (s.gens.setIfInBounds g x)[j]? = _
    rw [Array.getElem?_setIfInBounds_ne (Ne.symm hj)]
  drawn := m.drawn
  os := m.os
  bare := fun z => (m.bare (z.set g hx)).set g hy
theorem It.gen {w : World} {c : Nat} (hc : c ≤ 50) {I : Addr} {g N : Nat} {P : Nat → Value → Prop} {fp wr : List Addr} (hsub : ∀ b ∈ wr, b ∈ fp) (h2 : 2 ∈ fp) (hI : I ∈ fp) (w2 : 2 ∉ wr) (wI : I ∉ wr) :
    It w c Builtin.«generator.__next__» "generator" "generator.__next__" I fp wr [g] N P (GSt w c I g N P fp wr) where
  sub := hsub
  slot := slot_gen_next
  entry := entry_gen_next
  args := args_gen_next _
  live := fun i s st => st.live
  ty := fun i s st => st.gen.typeIs
  frame := fun i s s' st hk hj => by
    refine ⟨st.le, ?_, hk 2 h2 _ st.two, fun b hb => ?_, ?_⟩
    · obtain ⟨o, nm, qn, ho, r⟩ := st.gen; exact ⟨o, nm, qn, hk I hI _ ho, r⟩
    · obtain ⟨o, e⟩ := st.live b hb; exact ⟨o, hk b (hsub b hb) o e⟩
    · obtain ⟨gs, s0, e, q, k⟩ := st.go
      exact ⟨gs, s0, (hj g (by simp)).trans e, q.trans hk, k⟩
  item := fun A hA i s Q E hi st hQ => by
    refine upN hA ?_
    obtain ⟨gs, s0, hgs, hs0, hk⟩ := st.go
    have hgo := hk (s.setGen g .running) hs0
    show wpAny _ _ (Builtin.Generator.genWake (.ref I) (.send .none)) _ _ s
    unfold Builtin.Generator.genWake
    refine wpAny_bind (wpAny_holding (wpAny_genNumber st.gen (wpAny_bind (wpAny_genState hgs ?_))))
    have fin : ∀ {α : Type} {k : GenResult → Sem Fin}, (∀ v s₁, Q (.done (.ret v)) s₁ → wpAny (model pg w) (AN c) (k (.yielded v)) Q E s₁) → wpAny (model pg w) (AN c) (.resume g (.send .none) [] k) Q E s := by
      intro _ k hkk
      refine wpAny_resumeQ hgs hgo (fun x s₁ hx => ?_) (fun v s₁ gs' hgb hv => ?_)
      · exact absurd hx.1 (by omega)
      · obtain ⟨i', e, hp, mv, kap⟩ := hv
        obtain rfl : i' = i := by omega
        refine hkk v _ (hQ v _ hp ?_ (mv.setGen hgb))
        refine ⟨by omega, ?_, ?_, ?_, ?_⟩
        · obtain ⟨o, nm, qn, ho, r⟩ := st.gen; exact ⟨o, nm, qn, mv.keep I _ wI ho, r⟩
        · exact mv.keep 2 _ w2 st.two
        · intro b hb; obtain ⟨o, e⟩ := st.live b hb; exact mv.live b o e
        · refine ⟨gs', s₁.heap, ?_, Still.refl, fun s'' hs => ?_⟩
          · have : g < s₁.gens.size := by
              have h1 := mv.gsz
              have h3 := (Array.getElem?_eq_some_iff.mp hgs).1
              rw [h1]
              show g < (s.gens.setIfInBounds g .running).size
              rw [Array.size_setIfInBounds]; exact h3
            exact setGen_self (gs := s₁.gens[g]) (by rw [Array.getElem?_eq_getElem this])
          · have := kap s'' hs
            generalize N - i' = n at this hi e
            cases n with
            | zero => exact this.elim
            | succ m =>
              rw [show N - (i' + 1) = m by omega]
              exact this
    cases gs with
    | running => exact hgo.elim
    | finished => exact hgo.elim
    | _ =>
      refine wpAny_bind (wpAny_roomToWake (noLimit2 st.two) (by show 600 - c < 1000; omega) ?_)
      show wpAny _ _ (.resume g (.send .none) [] _) _ _ s
      exact fin (α := Unit) fun v s₁ q => wpAny_pure q
  done := fun A hA s Q E st hE => by
    refine upN hA ?_
    obtain ⟨gs, s0, hgs, hs0, hk⟩ := st.go
    have hgo := hk (s.setGen g .running) hs0
    show wpAny _ _ (Builtin.Generator.genWake (.ref I) (.send .none)) _ _ s
    unfold Builtin.Generator.genWake
    refine wpAny_bind (wpAny_holding (wpAny_genNumber st.gen (wpAny_bind (wpAny_genState hgs ?_))))
    cases gs with
    | running => exact hgo.elim
    | finished => exact hgo.elim
    | _ =>
      refine wpAny_bind (wpAny_roomToWake (noLimit2 st.two) (by show 600 - c < 1000; omega) ?_)
      show wpAny _ _ (.resume g (.send .none) [] _) _ _ s
      refine wpAny_resumeQ hgs hgo (fun x s₁ hx => ?_) (fun v s₁ gs' hgb hv => ?_)
      · obtain ⟨_, rfl, mv⟩ := hx
        show wpAny _ _ (newExc (.type "StopIteration") [] >>= _) _ _ _
        refine wpAny_bind ?_
        simp only [newExc, newTuple]
        refine wpAny_bind (wpAny_newObj_type ?_ (by size_fits))
        refine wpAny_bind (m := firstArgMember _ _) (wpAny_of_eq (a := Value.none) (by first | rfl | (simp only [firstArgMember]; rfl)) ?_)
        refine wpAny_newObj_type ?_ (by size_fits)
        simp only [raiseNew]
        refine wpAny_bind (wpAny_bind (wpAny_handled ?_))
        refine wpAny_throw ?_
        refine hE _ _ ⟨_, Heap.get?_push_size _ rfl, rfl⟩ ((mv.setGen (y := .finished) rfl).trans ?_)
        exact (Mv.of_keeps (s := s₁.setGen g .finished) (fun b o e => Heap.get?_push_of_some _ (Heap.get?_push_of_some _ e)))
      · obtain ⟨i', e, _, _, kap⟩ := hv
        have := kap s₁ Still.refl
        rw [Nat.sub_self] at this
        exact this.elim
end
section
section
variable {w : World} {A : Around} {R : GenEnd} {Y : Protocol} {n : Nat} {s₀ : Shared} {c : Code} {fs : List Frame} {s : Shared} {env : Env} {K : Flow → Sem Fin} {H : Value → Sem Fin} {gd : Bool → Bool} {lv : List Value → List Value}
def SegBr (M : Model) (A : Around) (R : GenEnd) (Y : Protocol) (n : Nat) (s₀ : Shared) (c : Code) (fs : List Frame) (env : Env) (K : Flow → Sem Fin) (H : Value → Sem Fin) (gd : Bool → Bool) (lv : List Value → List Value) (a b : List Stmt) : Bool → Shared → Prop := fun r s => match r with
  | true => Seg M A R Y n s₀ c ((execs a env).wrap K H gd lv) fs s
  | false => Seg M A R Y n s₀ c ((execs b env).wrap K H gd lv) fs s
theorem seg_If {M : Model} {test : PySem.Expr} {a b : List Stmt} {pos : Pos} (h : wpAny M (A.over c fs) (isTrue test env (eval test env)) (SegBr M A R Y n s₀ c fs env K H gd lv a b) (fun _ _ => False) s) :
    Seg M A R Y n s₀ c ((exec (.If test a b pos) env).wrap K H gd lv) fs s := by
  rw [exec_If]
  show Seg M A R Y n s₀ c (.at pos fun _ => ((isTrue test env (eval test env) >>= fun r => if r = true then execs a env else execs b env)).wrap K H gd lv) fs s
  refine seg_at ?_
  rw [Sem.bind_eq_wrap', Sem.wrap_wrap]
  refine seg_wrap (wpAny_mono h (fun r s' q => ?_) fun _ _ q => q.elim)
  cases r <;> exact q
def SegThen (M : Model) (A : Around) (R : GenEnd) (Y : Protocol) (n : Nat) (s₀ : Shared) (c : Code) (fs : List Frame) (K : Flow → Sem Fin) : Flow → Shared → Prop := fun f s => Seg M A R Y n s₀ c (K f) fs s
theorem seg_do {M : Model} {st : Stmt} (h : wpAny M (A.over c fs) (exec st env) (SegThen M A R Y n s₀ c fs K) (fun _ _ => False) s) : Seg M A R Y n s₀ c ((exec st env).wrap K H gd lv) fs s :=
  seg_wrap (wpAny_mono h (fun _ _ q => q) fun _ _ q => q.elim)
theorem sbr_t {M : Model} {a b : List Stmt} (h : Seg M A R Y n s₀ c ((execs a env).wrap K H gd lv) fs s) : SegBr M A R Y n s₀ c fs env K H gd lv a b true s := h
theorem sbr_f {M : Model} {a b : List Stmt} (h : Seg M A R Y n s₀ c ((execs b env).wrap K H gd lv) fs s) : SegBr M A R Y n s₀ c fs env K H gd lv a b false s := h
theorem sbr_is {M : Model} {a b : List Stmt} {r : Bool} (r' : Bool) (e : r = r') (h : SegBr M A R Y n s₀ c fs env K H gd lv a b r' s) : SegBr M A R Y n s₀ c fs env K H gd lv a b r s := e ▸ h
def WhK (test : PySem.Expr) (body orelse : List Stmt) (env : Env) : Flow → Sem Fin := fun f => match f with
  | .next | .cont => .pure (.again (.whileLoop test body orelse env))
  | .brk => .pure (.done .next)
  | .ret v => .pure (.done (.ret v))
def WhH (env : Env) : Value → Sem Fin := fun e => (do noteFrame e env; theTreesLotGoes e : Sem Unit).wrap (fun _ => .raise e) .raise id id
theorem gen_while {test : PySem.Expr} {body : List Stmt} {per tl chunks : Nat} (Inv : Nat → Shared → Shared → Prop)
    (turn : ∀ i n s₀ s, i < chunks → n = per * (chunks - (i + 1)) + tl → Inv i s₀ s → (∀ s₀' s', Inv (i + 1) s₀' s' → Seg (model pg w) A R Y n s₀' (.whileLoop test body [] env) (.pure (.again (.whileLoop test body [] env))) fs s') →
      wpAny (model pg w) (A.over (.whileLoop test body [] env) fs) (isTrue test env (eval test env)) (fun b s' => b = true ∧ Seg (model pg w) A R Y (n + per) s₀ (.whileLoop test body [] env) ((execs body env).wrap (WhK test body [] env) (WhH env) id id) fs s') (fun _ _ => False) s)
    (stop : ∀ s₀ s, Inv chunks s₀ s → wpAny (model pg w) (A.over (.whileLoop test body [] env) fs) (isTrue test env (eval test env)) (fun b s' => b = false ∧ Seg (model pg w) A R Y tl s₀ (.whileLoop test body [] env) (.pure (.done .next)) fs s') (fun _ _ => False) s) :
    ∀ (r i : Nat) (s₀ s : Shared), i + r = chunks → Inv i s₀ s → Seg (model pg w) A R Y (per * r + tl) s₀ (.whileLoop test body [] env) ((model pg w).den (.whileLoop test body [] env)) fs s
  | 0, i, s₀, s, e, hI => by
    obtain rfl : i = chunks := e
    rw [Nat.mul_zero, Nat.zero_add]
    refine seg_whileLoop (wpAny_mono (stop _ _ hI) (fun b s' q => ?_) fun _ _ q => q.elim)
    obtain ⟨rfl, q⟩ := q
    rw [if_neg Bool.false_ne_true]
    exact seg_execs_nil q
  | r + 1, i, s₀, s, e, hI => by
    have ih := gen_while Inv turn stop r
    rw [show per * (r + 1) + tl = (per * r + tl) + per by rw [Nat.mul_add, Nat.mul_one]; omega]
    refine seg_whileLoop (wpAny_mono (turn i (per * r + tl) _ _ (by omega) (by rw [show chunks - (i + 1) = r by omega]) hI fun s₀' s' q => seg_again rfl (ih (i + 1) s₀' s' (by omega) q)) (fun b s' q => ?_) fun _ _ q => q.elim)
    obtain ⟨rfl, q⟩ := q
    rw [if_pos rfl]
    exact q
end
abbrev hE : Heap := {}
section
variable {w : World} {A : Around} {h hz : Heap} {L : Addr} {m : Str → Option Value} {news : List (Addr × Obj)} {fp wr : List Addr}
theorem Wk.still {h'' : Heap} (F : Wk hE L hz h m news) (st : Still fp h h'') (hL : L ∈ fp) (hn : ∀ p ∈ news, p.1 ∈ fp) : Wk hE L h'' h'' m news :=
  ⟨⟨F.F.ns.at' (fun o e => st _ hL o e), (fun b o e => absurd (Heap.lt_size e) (Nat.not_lt_zero _)), Nat.zero_le _⟩, fun p q => ⟨st _ (hn p q) _ (F.N p q).1, (F.N p q).2⟩, fun _ _ _ e => e⟩
theorem Wk.toMv {g : Array GenState} {d : Drawn} {t t' : Nat} {os : OsState} (F : Wk hE L hz h m news) (hL : L ∈ wr) : Mv wr [] ⟨hz, g, d, t, os⟩ ⟨h, g, d, t', os⟩ :=
  ⟨fun b o n e => F.Z b o (fun q => n (q ▸ hL)) e, fun b o e => if q : b = L then (q ▸ F.liveL) else ⟨o, F.Z b o q e⟩, rfl, fun _ _ => rfl, rfl, rfl, fun x => x⟩
/-- where a generator's body stands -/
structure Gp (w : World) (fp wr : List Addr) (St : Nat → Shared → Prop) (g : Array GenState) (d : Drawn) (os : OsState) (s₀ : Shared) (j : Nat) (hz : Heap) : Prop where
  st : ∃ t, St j ⟨hz, g, d, t, os⟩
  mv : ∃ t, Mv wr [] s₀ ⟨hz, g, d, t, os⟩

variable {c : Nat} {b : Builtin} {T id : String} {it q : Addr} {fp0 wr0 : List Addr} {n : Nat} {P0 : Nat → Value → Prop} {St : Nat → Shared → Prop} {g : Array GenState} {d : Drawn} {t : Nat} {os : OsState} {s₀ : Shared} {j : Nat} {E : Value → Shared → Prop} {Q : Value → Shared → Prop} {env : Env} {pos : Pos}
theorem next_val (W : It w c b T id it fp0 wr0 [] n P0 St) (hA : AOk A (c + 1)) (hc : checkBoundCall id ⟨[.ref it], []⟩ = pure ()) (hp : plainId id = true)
    (F : Wk hE L hz h m news) (G : Gp w fp wr St g d os s₀ j hz) (hq : (q, wrapObj id (.ref it)) ∈ news) (hj : j < n) (hL : L ∈ wr) (hLf : L ∉ fp0) (hw : ∀ a ∈ wr0, a ∈ wr) (hn : ∀ p ∈ news, p.1 ∉ wr0)
    (k : ∀ h' t' v, P0 j v → Wk hE L h' h' m news → Gp w fp wr St g d os s₀ (j + 1) h' → Q v ⟨h', g, d, t', os⟩) :
    wpAny (model pg w) A (callWith pos (.ref q) [] (backTo pos (starEach [] env)) []) Q E ⟨h, g, d, t, os⟩ := by
  obtain ⟨⟨t1, st⟩, ⟨t2, mv⟩⟩ := G
  have st' : St j ⟨h, g, d, t, os⟩ := W.frame _ _ ⟨h, g, d, t, os⟩ st (fun b hb o e => F.Z b o (fun x => hLf (x ▸ hb)) e) (by simp)
  have mv' : Mv wr [] s₀ ⟨h, g, d, t, os⟩ := mv.trans (F.toMv hL)
  refine callWith_wrap0 (F.get hq) ?_
  refine call_wrap (F.get hq) hc hp W.entry ?_
  refine W.item _ hA.in1 _ _ _ _ hj st' fun v s' p st'' mv0 => ?_
  obtain ⟨h', t', rfl⟩ := mv0.shaped
  refine k h' t' v p ?_ ⟨⟨_, st''⟩, ⟨_, mv'.trans (mv0.mono hw (by simp))⟩⟩
  exact F.mark.mv (s := ⟨h, g, d, t, os⟩) (s' := ⟨h', g, d, t', os⟩) mv0 (fun x => hLf (W.sub _ x)) (fun a _ o e => absurd (Heap.lt_size e) (Nat.not_lt_zero _)) hn
variable {N : Nat} {P : Nat → Value → Prop} {fs : List Frame} {cd : Code} {K : Flow → Sem Fin} {H : Value → Sem Fin} {gd : Bool → Bool} {lv : List Value → List Value}
def YQ (P : Nat → Value → Prop) (i : Nat) (h : Heap) (g : Array GenState) (d : Drawn) (os : OsState) : Value → Shared → Prop := fun v s => P i v ∧ ∃ t, s = ⟨h, g, d, t, os⟩
theorem yield_step {e : PySem.Expr} {yp : Pos} {i k : Nat} (W : It w c b T id it fp0 wr0 [] n P0 St) (F : Wk hE L hz h m news) (G : Gp w fp wr St g d os s₀ j hz)
    (hL : L ∈ wr) (hLf : L ∉ fp0) (h0 : ∀ a ∈ fp0, a ∈ fp) (hLp : L ∈ fp) (hn : ∀ p ∈ news, p.1 ∈ fp) (hi : i + (k + 1) = N)
    (hfs : splitAtGen fs = none) (hgd : gd false = false) (hfg : fs.any Frame.guarded = false) (hco : env.scope.isCoroutine = false) (hin : interactive env = false)
    (hv : wpAny (model pg w) (A.over cd fs) (eval e env) (YQ P i h g d os) (fun _ _ => False) ⟨h, g, d, t, os⟩)
    (next : ∀ h' g' d' t' os', Wk hE L h' h' m news → Gp w fp wr St g' d' os' ⟨h', g', d', t', os'⟩ j h' →
      Seg (model pg w) A (GR wr) (GY N P fp wr) k ⟨h', g', d', t', os'⟩ cd (K .next) fs ⟨h', g', d', t', os'⟩) :
    Seg (model pg w) A (GR wr) (GY N P fp wr) (k + 1) s₀ cd ((exec (.Expr (.Yield (some e) yp) pos) env).wrap K H gd lv) fs ⟨h, g, d, t, os⟩ := by
  obtain ⟨⟨t1, st⟩, ⟨t2, mv⟩⟩ := G
  refine seg_Expr_Yield hfs hgd hfg (wpAny_mono hv (fun v s' q => ?_) fun _ _ q => q.elim) hco hin
  obtain ⟨hp, t3, rfl⟩ := q
  intro kap hk
  refine ⟨i, hi, hp, mv.trans (F.toMv hL), fun s'' hs => hk .none s'' ?_⟩
  obtain ⟨h', g', d', t', os'⟩ := s''
  refine next h' g' d' t' os' (F.still hs hLp hn) ⟨⟨t', ?_⟩, ⟨t', Mv.refl⟩⟩
  refine W.frame _ _ ⟨h', g', d', t', os'⟩ st (fun b hb o e => hs _ (h0 b hb) _ (F.Z b o (fun x => hLf (x ▸ hb)) e)) (by simp)
end
end
section
section
variable {w : World} {A : Around} {E : Value → Shared → Prop} {Q : Value → Shared → Prop} {h : Heap} {g : Array GenState} {d : Drawn} {t : Nat} {os : OsState} {a b : Nat} {u v : Tok}
theorem and_mask (a k : Nat) (m : Int) (hm : m = ((2 ^ k - 1 : Nat) : Int)) : Builtin.bitAnd (a : Int) m = ((a % 2 ^ k : Nat) : Int) := by
  rw [hm, bitAnd_nat, Nat.and_two_pow_sub_one_eq_mod]
theorem n_and63 (k : ∀ x y, Q (.int ((a % 64 : Nat) : Int) x) ⟨h, g, d, y, os⟩) : wpAny (model pg w) A (binaryOp .BitAnd (.int (a : Int) u) (.int 63 v)) Q E ⟨h, g, d, t, os⟩ := by
  refine i_and fun x y => ?_; rw [and_mask a 6 63 rfl]; exact k x y
theorem n_and15 (k : ∀ x y, Q (.int ((a % 16 : Nat) : Int) x) ⟨h, g, d, y, os⟩) : wpAny (model pg w) A (binaryOp .BitAnd (.int (a : Int) u) (.int 15 v)) Q E ⟨h, g, d, t, os⟩ := by
  refine i_and fun x y => ?_; rw [and_mask a 4 15 rfl]; exact k x y
theorem n_and3 (k : ∀ x y, Q (.int ((a % 4 : Nat) : Int) x) ⟨h, g, d, y, os⟩) : wpAny (model pg w) A (binaryOp .BitAnd (.int (a : Int) u) (.int 3 v)) Q E ⟨h, g, d, t, os⟩ := by
  refine i_and fun x y => ?_; rw [and_mask a 2 3 rfl]; exact k x y
theorem n_or (k : ∀ x y, Q (.int ((a ||| b : Nat) : Int) x) ⟨h, g, d, y, os⟩) : wpAny (model pg w) A (binaryOp .BitOr (.int (a : Int) u) (.int (b : Int) v)) Q E ⟨h, g, d, t, os⟩ := by
  refine i_or fun x y => ?_; rw [bitOr_nat]; exact k x y
theorem n_shl2 (ha : a < 1000000) (k : ∀ x y, Q (.int ((a * 4 : Nat) : Int) x) ⟨h, g, d, y, os⟩) : wpAny (model pg w) A (binaryOp .LShift (.int (a : Int) u) (.int 2 v)) Q E ⟨h, g, d, t, os⟩ := by
  refine i_shl (by decide) (by decide) (by omega) fun x y => ?_
  have := k x y; rwa [Int.natCast_mul] at this
theorem n_shl4 (ha : a < 1000000) (k : ∀ x y, Q (.int ((a * 16 : Nat) : Int) x) ⟨h, g, d, y, os⟩) : wpAny (model pg w) A (binaryOp .LShift (.int (a : Int) u) (.int 4 v)) Q E ⟨h, g, d, t, os⟩ := by
  refine i_shl (by decide) (by decide) (by omega) fun x y => ?_
  have := k x y; rwa [Int.natCast_mul] at this
theorem n_shl6 (ha : a < 2 ^ 120) (k : ∀ x y, Q (.int ((a * 64 : Nat) : Int) x) ⟨h, g, d, y, os⟩) : wpAny (model pg w) A (binaryOp .LShift (.int (a : Int) u) (.int 6 v)) Q E ⟨h, g, d, t, os⟩ := by
  refine i_shl (by decide) (by decide) (by omega) fun x y => ?_
  have := k x y; rwa [Int.natCast_mul] at this
theorem fdiv_nat (a b : Nat) : (a : Int).fdiv (b : Int) = ((a / b : Nat) : Int) := by
  rw [Int.fdiv_eq_ediv_of_nonneg _ (Int.natCast_nonneg b)]; rfl
theorem n_shr2 (k : ∀ x y, Q (.int ((a / 4 : Nat) : Int) x) ⟨h, g, d, y, os⟩) : wpAny (model pg w) A (binaryOp .RShift (.int (a : Int) u) (.int 2 v)) Q E ⟨h, g, d, t, os⟩ := by
  refine i_shr (by decide) fun x y => ?_; have := k x y; rwa [← fdiv_nat] at this
theorem n_shr4 (k : ∀ x y, Q (.int ((a / 16 : Nat) : Int) x) ⟨h, g, d, y, os⟩) : wpAny (model pg w) A (binaryOp .RShift (.int (a : Int) u) (.int 4 v)) Q E ⟨h, g, d, t, os⟩ := by
  refine i_shr (by decide) fun x y => ?_; have := k x y; rwa [← fdiv_nat] at this
theorem n_shr6 (k : ∀ x y, Q (.int ((a / 64 : Nat) : Int) x) ⟨h, g, d, y, os⟩) : wpAny (model pg w) A (binaryOp .RShift (.int (a : Int) u) (.int 6 v)) Q E ⟨h, g, d, t, os⟩ := by
  refine i_shr (by decide) fun x y => ?_; have := k x y; rwa [← fdiv_nat] at this
theorem or_add (k a b : Nat) (hb : b < 2 ^ k) : a * 2 ^ k ||| b = a * 2 ^ k + b := by
  rw [Nat.mul_comm, ← Nat.two_pow_add_eq_or_of_lt hb]
theorem or_add4 (a b : Nat) (hb : b < 4) : a * 4 ||| b = a * 4 + b := or_add 2 a b hb
theorem or_add16 (a b : Nat) (hb : b < 16) : a * 16 ||| b = a * 16 + b := or_add 4 a b hb
theorem or_add64 (a b : Nat) (hb : b < 64) : a * 64 ||| b = a * 64 + b := or_add 6 a b hb
theorem or_add4' (a b : Nat) (hb : b < 4) : b ||| a * 4 = b + a * 4 := by rw [Nat.or_comm, or_add4 a b hb, Nat.add_comm]
theorem or_add16' (a b : Nat) (hb : b < 16) : b ||| a * 16 = b + a * 16 := by rw [Nat.or_comm, or_add16 a b hb, Nat.add_comm]
theorem or_add64' (a b : Nat) (hb : b < 64) : b ||| a * 64 = b + a * 64 := by rw [Nat.or_comm, or_add64 a b hb, Nat.add_comm]
end

section
variable {A : Around} {R : GenEnd} {Y : Protocol} {n : Nat} {s₀ : Shared} {c : Code} {fs : List Frame} {s : Shared} {env : Env} {K : Flow → Sem Fin} {H : Value → Sem Fin} {gd : Bool → Bool} {lv : List Value → List Value} {M : Model}
theorem seg_Assign {ts : List PySem.Expr} {v : PySem.Expr} {pos : Pos} (h : wpAny M (A.over c fs) (exec (.Assign ts v pos) env) (SegThen M A R Y n s₀ c fs K) (fun _ _ => False) s) : Seg M A R Y n s₀ c ((exec (.Assign ts v pos) env).wrap K H gd lv) fs s := seg_do h
theorem seg_Aug {ts v : PySem.Expr} {op : Operator} {pos : Pos} (h : wpAny M (A.over c fs) (exec (.AugAssign ts op v pos) env) (SegThen M A R Y n s₀ c fs K) (fun _ _ => False) s) : Seg M A R Y n s₀ c ((exec (.AugAssign ts op v pos) env).wrap K H gd lv) fs s := seg_do h
theorem seg_Assert {ts : PySem.Expr} {v : Option PySem.Expr} {pos : Pos} (h : wpAny M (A.over c fs) (exec (.Assert ts v pos) env) (SegThen M A R Y n s₀ c fs K) (fun _ _ => False) s) : Seg M A R Y n s₀ c ((exec (.Assert ts v pos) env).wrap K H gd lv) fs s := seg_do h
theorem st_next (h : Seg M A R Y n s₀ c (K .next) fs s) : SegThen M A R Y n s₀ c fs K .next s := h
end
end
end
section
local macro_rules | `(tactic| x_close) => `(tactic| first
  | exact $(Lean.mkIdent `hk) _ _ Keeps.refl
  | exact $(Lean.mkIdent `hk) _ _ (keeps_of_mem (by assumption))
  | exact $(Lean.mkIdent `hk) _ _ _ Keeps.refl
  | exact $(Lean.mkIdent `hk) _ _ _ (keeps_of_mem (by assumption))
  | (apply $(Lean.mkIdent `hk); assumption)
  | (exact $(Lean.mkIdent `hk) _ _ _ (keeps_of_mem (by assumption)) (X.Mem.nw (by assumption) _ (List.mem_cons_self ..)).1 (X.Mem.nw (by assumption) _ (List.mem_cons_self ..)).2)
)
local macro_rules | `(tactic| lcg_off) => `(tactic| (intro $(Lean.mkIdent `h) _ $(Lean.mkIdent `k); replace $(Lean.mkIdent `F) := Wk.kept $(Lean.mkIdent `F) $(Lean.mkIdent `k); clear $(Lean.mkIdent `k)))
local macro_rules | `(tactic| lcg_src) => `(tactic| (intro $(Lean.mkIdent `h) _ _ $(Lean.mkIdent `k); replace $(Lean.mkIdent `F) := Wk.kept $(Lean.mkIdent `F) $(Lean.mkIdent `k); clear $(Lean.mkIdent `k)))
local macro_rules | `(tactic| tb_rel) => `(tactic| first
  | (with_reducible show wpAny _ _ (eval (Expr.Name _ _) _) _ _ _; first
      | with_reducible refine wL $(Lean.mkIdent `F) (by with_unfolding_all first | rfl | assumption) ?_ (by with_unfolding_all rfl) (by with_unfolding_all rfl) (by with_unfolding_all rfl) (by with_unfolding_all decide)
      | with_reducible refine wGl $(Lean.mkIdent `X) $(Lean.mkIdent `F) (by with_unfolding_all rfl) ?_ (by with_unfolding_all rfl) (by with_unfolding_all rfl) (by with_unfolding_all rfl) (by with_unfolding_all rfl) (by with_unfolding_all decide))
  | (with_reducible show wpAny _ _ (eval _ _) _ _ _; first
      | with_reducible refine sub_sl ?_
      | with_reducible refine e_int ?_
      | with_reducible refine e_str ?_
      | with_reducible refine e_bool ?_
      | with_reducible refine e_none ?_
      | with_reducible refine wpAny_BinOp ?_
      | with_reducible refine wpAny_Compare1 ?_
      | with_reducible refine wpAny_UnaryOp ?_
      | with_reducible refine callN ?_
      | with_reducible refine sub_ix ?_
      | with_reducible refine s_ifx ?_
      | with_reducible refine Attribute_name ?_)
  | (with_reducible show wpAny _ _ (execs _ _) _ _ _; first
      | with_reducible refine s_cons ?_
      | with_reducible refine s_nil ?_)
  | (with_reducible show wpAny _ _ (exec _ _) _ _ _; first
      | with_reducible refine wpAny_Assert_holds ?_
      | with_reducible refine s_if ?_
      | with_reducible refine wpAny_Return_some ?_
      | with_reducible refine wpAny_Assign_Name ?_ (by with_unfolding_all rfl)
      | with_reducible refine wpAny_AugAssign_Name ?_
      | with_reducible refine s_for ?_ (by intro _; with_unfolding_all rfl)
      | with_reducible refine s_expr ?_)
  | (with_reducible show wpAny _ _ (storeName _ _ _) _ _ _; first
      | (with_reducible refine wstL $(Lean.mkIdent `F) ?_ (by with_unfolding_all rfl) (by with_unfolding_all rfl) (by with_unfolding_all rfl); clear $(Lean.mkIdent `F); intro _ _ $(Lean.mkIdent `F)))
  | (with_reducible show wpAny _ _ (loadName _ _) _ _ _; first
      | with_reducible refine wldL $(Lean.mkIdent `F) (by with_unfolding_all first | rfl | assumption) ?_ (by with_unfolding_all rfl) (by with_unfolding_all rfl) (by with_unfolding_all rfl))
  | (with_reducible show wpAny _ _ (spliced _) _ _ _; first
      | with_reducible refine wpAny_items_cons ?_ (by with_unfolding_all rfl)
      | with_reducible refine wpAny_items_nil ?_)
  | (with_reducible show wpAny _ _ (callWith _ _ _ _ _) _ _ _; first
      | with_reducible refine callB ?_ (by with_unfolding_all rfl) (by with_unfolding_all rfl)
      | with_reducible refine callT ?_ (by with_unfolding_all rfl) (by with_unfolding_all rfl)
      | with_reducible refine callKn $(Lean.mkIdent `X) (by kernel_rfl) ?_ (by with_unfolding_all rfl) (by with_unfolding_all rfl))
  | (with_reducible show wpAny _ _ (isTrue _ _ _) _ _ _; first
      | with_reducible refine wpAny_isTrue_Compare1 ?_
      | with_reducible refine wpAny_isTrue_Not ?_
      | with_reducible refine wpAny_isTrue_BoolOp ?_
      | with_reducible refine wpAny_isTrue_value ?_ (by with_unfolding_all rfl))
  | (with_reducible show wpAny _ _ (truthy _) _ _ _; first
      | with_reducible refine t_bool ?_
      | with_reducible refine t_int ?_)
  | (with_reducible show wpAny _ _ (compareOp _ _ _) _ _ _; first
      | with_reducible refine i_eq ?_
      | with_reducible refine i_ne ?_
      | with_reducible refine i_lt ?_
      | with_reducible refine i_gt ?_
      | with_reducible refine i_ge ?_
      | with_reducible refine is_nn ?_)
  | (with_reducible show wpAny _ _ (binaryOp _ _ _) _ _ _; first
      | (with_reducible refine n_and63 ?_; intro _ _)
      | (with_reducible refine n_and15 ?_; intro _ _)
      | (with_reducible refine n_and3 ?_; intro _ _)
      | (with_reducible refine n_or ?_; intro _ _)
      | (with_reducible refine n_shr2 ?_; intro _ _)
      | (with_reducible refine n_shr4 ?_; intro _ _)
      | (with_reducible refine n_shr6 ?_; intro _ _)
      | (with_reducible refine n_shl2 (by omega) ?_; intro _ _)
      | (with_reducible refine n_shl4 (by omega) ?_; intro _ _)
      | (with_reducible refine n_shl6 (by omega) ?_; intro _ _)
      | (with_reducible refine i_add ?_; intro _ _)
      | (with_reducible refine i_sub ?_; intro _ _)
      | (with_reducible refine i_and ?_; intro _ _)
      | (with_reducible refine i_or ?_; intro _ _)
      | (with_reducible refine i_xor ?_; intro _ _))
  | (with_reducible show wpAny _ _ (inplaceOp _ _ _) _ _ _; first
      | (with_reducible refine i_iand ?_; intro _ _)
      | (with_reducible refine i_ior ?_; intro _ _)
      | (with_reducible refine i_iadd ?_; intro _ _))
  | (with_reducible show wpAny _ _ (unaryOp _ _) _ _ _; first
      | (with_reducible refine i_neg ?_; intro _ _)
      | (with_reducible refine i_inv ?_; intro _ _))
  | (with_reducible show wpAny _ _ (evalPart _ _) _ _ _; first
      | with_reducible refine part0 ?_
      | with_reducible refine part1 ?_)
  | with_reducible refine seg_execs_cons ?_
  | with_reducible refine seg_Assign ?_
  | with_reducible refine seg_Aug ?_
  | with_reducible refine seg_Assert ?_
  | with_reducible refine seg_If ?_
  | with_reducible refine st_next ?_
  | with_reducible refine sbr_t ?_
  | with_reducible refine sbr_f ?_
  | with_reducible refine br_t ?_
  | with_reducible refine br_f ?_
  | with_reducible refine br_nt ?_
  | with_reducible refine br_nf ?_
  | with_reducible refine then_next ?_
  | with_reducible refine then_ret ?_
  | with_reducible refine retQ ?_
  | with_reducible refine And.intro (fun _ => Wk.top $(Lean.mkIdent `F) $(Lean.mkIdent `X)) ?_
  | with_reducible refine brE_t ?_
  | with_reducible refine brE_f ?_)
section
theorem Gp.fin {w : World} {h hz : Heap} {L : Addr} {m : Str → Option Value} {news : List (Addr × Obj)} {fp wr : List Addr} {St : Nat → Shared → Prop} {g : Array GenState} {d : Drawn} {t : Nat} {os : OsState} {s₀ : Shared} {j : Nat}
    (G : Gp w fp wr St g d os s₀ j hz) (F : Wk hE L hz h m news) (hL : L ∈ wr) : Mv wr [] s₀ ⟨h, g, d, t, os⟩ := let ⟨_, mv⟩ := G.mv; mv.trans (F.toMv hL)
def xsP (xs : List Nat) : Nat → Value → Prop := fun j v => ∃ u, v = .int ((xs.getD j 0 : Nat) : Int) u
def tl (tail : Nat) : Nat := if tail = 0 then 0 else tail + 1
def tld (tail : Nat) : Nat := tail - 1
def oP (f : Nat → Nat) : Nat → Value → Prop := fun k v => ∃ u, v = .int ((f k : Nat) : Int) u
theorem getD_out (xs : List Nat) (j : Nat) (h : xs.length ≤ j) : xs.getD j 0 = 0 := by
  rw [List.getD_eq_getElem?_getD, List.getElem?_eq_none h]; rfl
def outL (xs : List Nat) (k : Nat) : Nat := match k % 4 with
  | 0 => xs.getD (3 * (k / 4)) 0 % 64
  | 1 => (xs.getD (3 * (k / 4) + 1) 0 % 16) * 4 + xs.getD (3 * (k / 4)) 0 / 64
  | 2 => (xs.getD (3 * (k / 4) + 2) 0 % 4) * 16 + xs.getD (3 * (k / 4) + 1) 0 / 16
  | _ => xs.getD (3 * (k / 4) + 2) 0 / 4
theorem outL_0 (xs : List Nat) (i : Nat) : outL xs (4 * i) = xs.getD (3 * i) 0 % 64 := by
  unfold outL; rw [show (4 * i) % 4 = 0 by omega, show (4 * i) / 4 = i by omega]; rfl
theorem outL_1 (xs : List Nat) (i : Nat) : outL xs (4 * i + 1) = (xs.getD (3 * i + 1) 0 % 16) * 4 + xs.getD (3 * i) 0 / 64 := by
  unfold outL; rw [show (4 * i + 1) % 4 = 1 by omega, show (4 * i + 1) / 4 = i by omega]; rfl
theorem outL_2 (xs : List Nat) (i : Nat) : outL xs (4 * i + 2) = (xs.getD (3 * i + 2) 0 % 4) * 16 + xs.getD (3 * i + 1) 0 / 16 := by
  unfold outL; rw [show (4 * i + 2) % 4 = 2 by omega, show (4 * i + 2) / 4 = i by omega]; rfl
theorem outL_3 (xs : List Nat) (i : Nat) : outL xs (4 * i + 3) = xs.getD (3 * i + 2) 0 / 4 := by
  unfold outL; rw [show (4 * i + 3) % 4 = 3 by omega, show (4 * i + 3) / 4 = i by omega]; rfl
def outB (xs : List Nat) (k : Nat) : Nat := match k % 4 with
  | 0 => xs.getD (3 * (k / 4)) 0 / 4
  | 1 => (xs.getD (3 * (k / 4)) 0 % 4) * 16 + xs.getD (3 * (k / 4) + 1) 0 / 16
  | 2 => (xs.getD (3 * (k / 4) + 1) 0 % 16) * 4 + xs.getD (3 * (k / 4) + 2) 0 / 64
  | _ => xs.getD (3 * (k / 4) + 2) 0 % 64
theorem outB_0 (xs : List Nat) (i : Nat) : outB xs (4 * i) = xs.getD (3 * i) 0 / 4 := by
  unfold outB; rw [show (4 * i) % 4 = 0 by omega, show (4 * i) / 4 = i by omega]; rfl
theorem outB_1 (xs : List Nat) (i : Nat) : outB xs (4 * i + 1) = (xs.getD (3 * i) 0 % 4) * 16 + xs.getD (3 * i + 1) 0 / 16 := by
  unfold outB; rw [show (4 * i + 1) % 4 = 1 by omega, show (4 * i + 1) / 4 = i by omega]; rfl
theorem outB_2 (xs : List Nat) (i : Nat) : outB xs (4 * i + 2) = (xs.getD (3 * i + 1) 0 % 16) * 4 + xs.getD (3 * i + 2) 0 / 64 := by
  unfold outB; rw [show (4 * i + 2) % 4 = 2 by omega, show (4 * i + 2) / 4 = i by omega]; rfl
theorem outB_3 (xs : List Nat) (i : Nat) : outB xs (4 * i + 3) = xs.getD (3 * i + 2) 0 % 64 := by
  unfold outB; rw [show (4 * i + 3) % 4 = 3 by omega, show (4 * i + 3) / 4 = i by omega]; rfl
def decL (xs : List Nat) (k : Nat) : Nat := match k % 3 with
  | 0 => xs.getD (4 * (k / 3)) 0 + (xs.getD (4 * (k / 3) + 1) 0 % 4) * 64
  | 1 => xs.getD (4 * (k / 3) + 1) 0 / 4 + (xs.getD (4 * (k / 3) + 2) 0 % 16) * 16
  | _ => xs.getD (4 * (k / 3) + 2) 0 / 16 + xs.getD (4 * (k / 3) + 3) 0 * 4
theorem decL_0 (xs : List Nat) (i : Nat) : decL xs (3 * i) = xs.getD (4 * i) 0 + (xs.getD (4 * i + 1) 0 % 4) * 64 := by
  unfold decL; rw [show (3 * i) % 3 = 0 by omega, show (3 * i) / 3 = i by omega]; rfl
theorem decL_1 (xs : List Nat) (i : Nat) : decL xs (3 * i + 1) = xs.getD (4 * i + 1) 0 / 4 + (xs.getD (4 * i + 2) 0 % 16) * 16 := by
  unfold decL; rw [show (3 * i + 1) % 3 = 1 by omega, show (3 * i + 1) / 3 = i by omega]; rfl
theorem decL_2 (xs : List Nat) (i : Nat) : decL xs (3 * i + 2) = xs.getD (4 * i + 2) 0 / 16 + xs.getD (4 * i + 3) 0 * 4 := by
  unfold decL; rw [show (3 * i + 2) % 3 = 2 by omega, show (3 * i + 2) / 3 = i by omega]; rfl
def decB (xs : List Nat) (k : Nat) : Nat := match k % 3 with
  | 0 => xs.getD (4 * (k / 3)) 0 * 4 + xs.getD (4 * (k / 3) + 1) 0 / 16
  | 1 => (xs.getD (4 * (k / 3) + 1) 0 % 16) * 16 + xs.getD (4 * (k / 3) + 2) 0 / 4
  | _ => (xs.getD (4 * (k / 3) + 2) 0 % 4) * 64 + xs.getD (4 * (k / 3) + 3) 0
theorem decB_0 (xs : List Nat) (i : Nat) : decB xs (3 * i) = xs.getD (4 * i) 0 * 4 + xs.getD (4 * i + 1) 0 / 16 := by
  unfold decB; rw [show (3 * i) % 3 = 0 by omega, show (3 * i) / 3 = i by omega]; rfl
theorem decB_1 (xs : List Nat) (i : Nat) : decB xs (3 * i + 1) = (xs.getD (4 * i + 1) 0 % 16) * 16 + xs.getD (4 * i + 2) 0 / 4 := by
  unfold decB; rw [show (3 * i + 1) % 3 = 1 by omega, show (3 * i + 1) / 3 = i by omega]; rfl
theorem decB_2 (xs : List Nat) (i : Nat) : decB xs (3 * i + 2) = (xs.getD (4 * i + 2) 0 % 4) * 64 + xs.getD (4 * i + 3) 0 := by
  unfold decB; rw [show (3 * i + 2) % 3 = 2 by omega, show (3 * i + 2) / 3 = i by omega]; rfl
section
variable {w : World} {h : Heap} {L q e : Addr} {m : Str → Option Value} {fp wr fp0 wr0 : List Addr} {g : Array GenState} {d : Drawn} {t : Nat} {os : OsState} {s₀ : Shared}
  {c : Nat} {b : Builtin} {T id : String} {it : Addr} {St : Nat → Shared → Prop} {xs : List Nat} {chunks tail : Nat} {tk1 tk2 tk3 : Tok}
theorem genL_goes (W : It w c b T id it fp0 wr0 [] xs.length (xsP xs) St) (hc : c ≤ 8) (hck : checkBoundCall id ⟨[.ref it], []⟩ = pure ()) (hp : plainId id = true)
    (hx : ∀ j, xs.getD j 0 < 256) (hlen : xs.length = 3 * chunks + tail) (ht : tail < 3)
    (F : Wk hE L h h m [(q, wrapObj id (.ref it))]) (G : Gp w fp wr St g d os s₀ 0 h) (hL : L ∈ wr) (hLf : L ∉ fp0) (hw : ∀ a ∈ wr0, a ∈ wr) (h0 : ∀ a ∈ fp0, a ∈ fp) (hLp : L ∈ fp) (hqw : q ∉ wr0) (hqp : q ∈ fp)
    (m1 : m "next_value" = some (.ref q)) (m2 : m "chunks" = some (.int (chunks : Int) tk1)) (m3 : m "tail" = some (.int (tail : Int) tk2)) :
    Seg (model pg w) (AN 20) (GR wr) (GY (4 * chunks + tl tail) (oP (outL xs)) fp wr) (4 * chunks + tl tail) s₀ (.func (bodyOf fd128S.1) (envX fd128S.1.qualname fd128S.1.scope L 128 fd128S.1.code []))
      ((model pg w).den (.func (bodyOf fd128S.1) (envX fd128S.1.qualname fd128S.1.scope L 128 fd128S.1.code []))) [] ⟨h, g, d, t, os⟩ := by
  refine seg_func ?_
  have X : True := trivial
  refine seg_execs_cons ?_
  repeat tb_rel
  refine seg_While (fun p => ?_)
  refine gen_while (per := 4) (chunks := chunks) (tl := tl tail) (fun i s₀ s => ∃ h t hz m' g d os tki, s = ⟨h, g, d, t, os⟩ ∧ Wk hE L hz h m' [(q, wrapObj id (.ref it))] ∧ Gp w fp wr St g d os s₀ (3 * i) hz ∧ m' "idx" = some (.int (i : Int) tki) ∧ m' "next_value" = some (.ref q) ∧ m' "chunks" = some (.int (chunks : Int) tk1) ∧ m' "tail" = some (.int (tail : Int) tk2)) ?_ ?_ chunks 0 _ _ (by omega) ?_
  · rintro i n s₀ s hi hn ⟨h, t, hz, m', g, d, os, tki, rfl, F, G, m0, m1, m2, m3⟩ next
    have x0 := hx (3 * i); have x1 := hx (3 * i + 1); have x2 := hx (3 * i + 1 + 1)
    repeat tb_rel
    refine ⟨decide_eq_true (by omega), ?_⟩
    refine seg_execs_cons ?_
    repeat tb_rel
    refine next_val W (n := xs.length) (AOk.less (n := 9) ⟨rfl, Nat.le_of_ble_eq_true rfl, Nat.le_of_ble_eq_true rfl⟩ (by omega)) hck hp F G (List.mem_cons_self ..) (by omega) hL hLf hw (by simpa using hqw) ?_
    clear F G
    intro h _ v hv F G
    obtain ⟨u, rfl⟩ := hv
    repeat tb_rel
    refine next_val W (n := xs.length) (AOk.less (n := 9) ⟨rfl, Nat.le_of_ble_eq_true rfl, Nat.le_of_ble_eq_true rfl⟩ (by omega)) hck hp F G (List.mem_cons_self ..) (by omega) hL hLf hw (by simpa using hqw) ?_
    clear F G
    intro h _ v hv F G
    obtain ⟨u, rfl⟩ := hv
    repeat tb_rel
    refine next_val W (n := xs.length) (AOk.less (n := 9) ⟨rfl, Nat.le_of_ble_eq_true rfl, Nat.le_of_ble_eq_true rfl⟩ (by omega)) hck hp F G (List.mem_cons_self ..) (by omega) hL hLf hw (by simpa using hqw) ?_
    clear F G
    intro h _ v hv F G
    obtain ⟨u, rfl⟩ := hv
    repeat tb_rel
    refine yield_step W F G hL hLf h0 hLp (by simpa using hqp) (i := 4 * i) (k := n + 3) (by first | omega | (simp only [tl] at *; omega)) rfl rfl rfl rfl rfl ?_ ?_
    · repeat tb_rel
      exact ⟨⟨_, by rw [outL_0]⟩, _, rfl⟩
    clear F G
    intro h g d _ os F G
    repeat tb_rel
    refine yield_step W F G hL hLf h0 hLp (by simpa using hqp) (i := 4 * i + 1) (k := n + 2) (by first | omega | (simp only [tl] at *; omega)) rfl rfl rfl rfl rfl ?_ ?_
    · repeat tb_rel
      exact ⟨⟨_, by rw [outL_1, or_add4 _ _ (by omega)]⟩, _, rfl⟩
    clear F G
    intro h g d _ os F G
    repeat tb_rel
    refine yield_step W F G hL hLf h0 hLp (by simpa using hqp) (i := 4 * i + 2) (k := n + 1) (by first | omega | (simp only [tl] at *; omega)) rfl rfl rfl rfl rfl ?_ ?_
    · repeat tb_rel
      exact ⟨⟨_, by rw [outL_2, or_add16 _ _ (by omega)]⟩, _, rfl⟩
    clear F G
    intro h g d _ os F G
    repeat tb_rel
    refine yield_step W F G hL hLf h0 hLp (by simpa using hqp) (i := 4 * i + 3) (k := n) (by first | omega | (simp only [tl] at *; omega)) rfl rfl rfl rfl rfl ?_ ?_
    · repeat tb_rel
      exact ⟨⟨_, by rw [outL_3]⟩, _, rfl⟩
    clear F G
    intro h g d _ os F G
    repeat tb_rel
    exact next _ _ ⟨_, _, _, _, _, _, _, _, rfl, F, G, rfl, m1, m2, m3⟩
  · rintro s₀ s ⟨h, t, hz, m', g, d, os, tki, rfl, F, G, m0, m1, m2, m3⟩
    repeat tb_rel
    refine ⟨decide_eq_false (by omega), ?_⟩
    refine seg_leaf (.ok .next) ?_
    refine seg_execs_cons ?_
    repeat tb_rel
    have x0 := hx (3 * chunks); have x1 := hx (3 * chunks + 1); have x2 := hx (3 * chunks + 1 + 1)
    rcases (by omega : tail = 0 ∨ tail = 1 ∨ tail = 2) with rfl|rfl|rfl
    · refine sbr_is false rfl ?_
      refine sbr_f ?_
      refine seg_execs_nil ?_
      refine seg_execs_nil ?_
      refine seg_end (.ok (.ret .none)) ⟨rfl, rfl, G.fin F hL⟩
    · rw [show tl 1 = 2 from rfl]
      refine sbr_is true rfl ?_
      repeat tb_rel
      refine next_val W (n := xs.length) (AOk.less (n := 9) ⟨rfl, Nat.le_of_ble_eq_true rfl, Nat.le_of_ble_eq_true rfl⟩ (by omega)) hck hp F G (List.mem_cons_self ..) (by omega) hL hLf hw (by simpa using hqw) ?_
      clear F G
      intro h _ v hv F G
      obtain ⟨u, rfl⟩ := hv
      repeat tb_rel
      refine sbr_is true rfl ?_
      repeat tb_rel
      refine yield_step W F G hL hLf h0 hLp (by simpa using hqp) (i := 4 * chunks) (k := 1) (by first | omega | (simp only [tl] at *; omega)) rfl rfl rfl rfl rfl ?_ ?_
      · repeat tb_rel
        exact ⟨⟨_, by rw [outL_0]⟩, _, rfl⟩
      clear F G
      intro h g d _ os F G
      repeat tb_rel
      refine yield_step W F G hL hLf h0 hLp (by simpa using hqp) (i := 4 * chunks + 1) (k := 0) (by first | omega | (simp only [tl] at *; omega)) rfl rfl rfl rfl rfl ?_ ?_
      · repeat tb_rel
        exact ⟨⟨_, by rw [outL_1, getD_out xs (3 * chunks + 1) (by omega), show 0 % 16 * 4 = 0 from rfl, Nat.zero_add]⟩, _, rfl⟩
      clear F G
      intro h g d _ os F G
      repeat tb_rel
      refine seg_execs_nil ?_
      refine seg_execs_nil ?_
      refine seg_execs_nil ?_
      refine seg_end (.ok (.ret .none)) ⟨rfl, rfl, G.fin F hL⟩
    · rw [show tl 2 = 3 from rfl]
      refine sbr_is true rfl ?_
      repeat tb_rel
      refine next_val W (n := xs.length) (AOk.less (n := 9) ⟨rfl, Nat.le_of_ble_eq_true rfl, Nat.le_of_ble_eq_true rfl⟩ (by omega)) hck hp F G (List.mem_cons_self ..) (by omega) hL hLf hw (by simpa using hqw) ?_
      clear F G
      intro h _ v hv F G
      obtain ⟨u, rfl⟩ := hv
      repeat tb_rel
      refine sbr_is false rfl ?_
      repeat tb_rel
      refine ⟨rfl, ?_⟩
      repeat tb_rel
      refine next_val W (n := xs.length) (AOk.less (n := 9) ⟨rfl, Nat.le_of_ble_eq_true rfl, Nat.le_of_ble_eq_true rfl⟩ (by omega)) hck hp F G (List.mem_cons_self ..) (by omega) hL hLf hw (by simpa using hqw) ?_
      clear F G
      intro h _ v hv F G
      obtain ⟨u, rfl⟩ := hv
      repeat tb_rel
      refine yield_step W F G hL hLf h0 hLp (by simpa using hqp) (i := 4 * chunks) (k := 2) (by first | omega | (simp only [tl] at *; omega)) rfl rfl rfl rfl rfl ?_ ?_
      · repeat tb_rel
        exact ⟨⟨_, by rw [outL_0]⟩, _, rfl⟩
      clear F G
      intro h g d _ os F G
      repeat tb_rel
      refine yield_step W F G hL hLf h0 hLp (by simpa using hqp) (i := 4 * chunks + 1) (k := 1) (by first | omega | (simp only [tl] at *; omega)) rfl rfl rfl rfl rfl ?_ ?_
      · repeat tb_rel
        exact ⟨⟨_, by rw [outL_1, or_add4 _ _ (by omega)]⟩, _, rfl⟩
      clear F G
      intro h g d _ os F G
      repeat tb_rel
      refine yield_step W F G hL hLf h0 hLp (by simpa using hqp) (i := 4 * chunks + 2) (k := 0) (by first | omega | (simp only [tl] at *; omega)) rfl rfl rfl rfl rfl ?_ ?_
      · repeat tb_rel
        exact ⟨⟨_, by rw [outL_2, getD_out xs (3 * chunks + 2) (by omega), show 0 % 4 * 16 = 0 from rfl, Nat.zero_add]⟩, _, rfl⟩
      clear F G
      intro h g d _ os F G
      repeat tb_rel
      refine seg_execs_nil ?_
      refine seg_execs_nil ?_
      refine seg_execs_nil ?_
      refine seg_end (.ok (.ret .none)) ⟨rfl, rfl, G.fin F hL⟩
  · exact ⟨_, _, _, _, _, _, _, _, rfl, F, G, rfl, m1, m2, m3⟩
theorem genB_goes (W : It w c b T id it fp0 wr0 [] xs.length (xsP xs) St) (hc : c ≤ 8) (hck : checkBoundCall id ⟨[.ref it], []⟩ = pure ()) (hp : plainId id = true)
    (hx : ∀ j, xs.getD j 0 < 256) (hlen : xs.length = 3 * chunks + tail) (ht : tail < 3)
    (F : Wk hE L h h m [(q, wrapObj id (.ref it))]) (G : Gp w fp wr St g d os s₀ 0 h) (hL : L ∈ wr) (hLf : L ∉ fp0) (hw : ∀ a ∈ wr0, a ∈ wr) (h0 : ∀ a ∈ fp0, a ∈ fp) (hLp : L ∈ fp) (hqw : q ∉ wr0) (hqp : q ∈ fp)
    (m1 : m "next_value" = some (.ref q)) (m2 : m "chunks" = some (.int (chunks : Int) tk1)) (m3 : m "tail" = some (.int (tail : Int) tk2)) :
    Seg (model pg w) (AN 20) (GR wr) (GY (4 * chunks + tl tail) (oP (outB xs)) fp wr) (4 * chunks + tl tail) s₀ (.func (bodyOf fd135S.1) (envX fd135S.1.qualname fd135S.1.scope L 135 fd135S.1.code []))
      ((model pg w).den (.func (bodyOf fd135S.1) (envX fd135S.1.qualname fd135S.1.scope L 135 fd135S.1.code []))) [] ⟨h, g, d, t, os⟩ := by
  refine seg_func ?_
  have X : True := trivial
  refine seg_execs_cons ?_
  repeat tb_rel
  refine seg_While (fun p => ?_)
  refine gen_while (per := 4) (chunks := chunks) (tl := tl tail) (fun i s₀ s => ∃ h t hz m' g d os tki, s = ⟨h, g, d, t, os⟩ ∧ Wk hE L hz h m' [(q, wrapObj id (.ref it))] ∧ Gp w fp wr St g d os s₀ (3 * i) hz ∧ m' "idx" = some (.int (i : Int) tki) ∧ m' "next_value" = some (.ref q) ∧ m' "chunks" = some (.int (chunks : Int) tk1) ∧ m' "tail" = some (.int (tail : Int) tk2)) ?_ ?_ chunks 0 _ _ (by omega) ?_
  · rintro i n s₀ s hi hn ⟨h, t, hz, m', g, d, os, tki, rfl, F, G, m0, m1, m2, m3⟩ next
    have x0 := hx (3 * i); have x1 := hx (3 * i + 1); have x2 := hx (3 * i + 1 + 1)
    repeat tb_rel
    refine ⟨decide_eq_true (by omega), ?_⟩
    refine seg_execs_cons ?_
    repeat tb_rel
    refine next_val W (n := xs.length) (AOk.less (n := 9) ⟨rfl, Nat.le_of_ble_eq_true rfl, Nat.le_of_ble_eq_true rfl⟩ (by omega)) hck hp F G (List.mem_cons_self ..) (by omega) hL hLf hw (by simpa using hqw) ?_
    clear F G
    intro h _ v hv F G
    obtain ⟨u, rfl⟩ := hv
    repeat tb_rel
    refine next_val W (n := xs.length) (AOk.less (n := 9) ⟨rfl, Nat.le_of_ble_eq_true rfl, Nat.le_of_ble_eq_true rfl⟩ (by omega)) hck hp F G (List.mem_cons_self ..) (by omega) hL hLf hw (by simpa using hqw) ?_
    clear F G
    intro h _ v hv F G
    obtain ⟨u, rfl⟩ := hv
    repeat tb_rel
    refine next_val W (n := xs.length) (AOk.less (n := 9) ⟨rfl, Nat.le_of_ble_eq_true rfl, Nat.le_of_ble_eq_true rfl⟩ (by omega)) hck hp F G (List.mem_cons_self ..) (by omega) hL hLf hw (by simpa using hqw) ?_
    clear F G
    intro h _ v hv F G
    obtain ⟨u, rfl⟩ := hv
    repeat tb_rel
    refine yield_step W F G hL hLf h0 hLp (by simpa using hqp) (i := 4 * i) (k := n + 3) (by first | omega | (simp only [tl] at *; omega)) rfl rfl rfl rfl rfl ?_ ?_
    · repeat tb_rel
      exact ⟨⟨_, by rw [outB_0]⟩, _, rfl⟩
    clear F G
    intro h g d _ os F G
    repeat tb_rel
    refine yield_step W F G hL hLf h0 hLp (by simpa using hqp) (i := 4 * i + 1) (k := n + 2) (by first | omega | (simp only [tl] at *; omega)) rfl rfl rfl rfl rfl ?_ ?_
    · repeat tb_rel
      exact ⟨⟨_, by rw [outB_1, or_add16 _ _ (by omega)]⟩, _, rfl⟩
    clear F G
    intro h g d _ os F G
    repeat tb_rel
    refine yield_step W F G hL hLf h0 hLp (by simpa using hqp) (i := 4 * i + 2) (k := n + 1) (by first | omega | (simp only [tl] at *; omega)) rfl rfl rfl rfl rfl ?_ ?_
    · repeat tb_rel
      exact ⟨⟨_, by rw [outB_2, or_add4 _ _ (by omega)]⟩, _, rfl⟩
    clear F G
    intro h g d _ os F G
    repeat tb_rel
    refine yield_step W F G hL hLf h0 hLp (by simpa using hqp) (i := 4 * i + 3) (k := n) (by first | omega | (simp only [tl] at *; omega)) rfl rfl rfl rfl rfl ?_ ?_
    · repeat tb_rel
      exact ⟨⟨_, by rw [outB_3]⟩, _, rfl⟩
    clear F G
    intro h g d _ os F G
    repeat tb_rel
    exact next _ _ ⟨_, _, _, _, _, _, _, _, rfl, F, G, rfl, m1, m2, m3⟩
  · rintro s₀ s ⟨h, t, hz, m', g, d, os, tki, rfl, F, G, m0, m1, m2, m3⟩
    repeat tb_rel
    refine ⟨decide_eq_false (by omega), ?_⟩
    refine seg_leaf (.ok .next) ?_
    refine seg_execs_cons ?_
    repeat tb_rel
    have x0 := hx (3 * chunks); have x1 := hx (3 * chunks + 1); have x2 := hx (3 * chunks + 1 + 1)
    rcases (by omega : tail = 0 ∨ tail = 1 ∨ tail = 2) with rfl|rfl|rfl
    · refine sbr_is false rfl ?_
      refine sbr_f ?_
      refine seg_execs_nil ?_
      refine seg_execs_nil ?_
      refine seg_end (.ok (.ret .none)) ⟨rfl, rfl, G.fin F hL⟩
    · rw [show tl 1 = 2 from rfl]
      refine sbr_is true rfl ?_
      repeat tb_rel
      refine next_val W (n := xs.length) (AOk.less (n := 9) ⟨rfl, Nat.le_of_ble_eq_true rfl, Nat.le_of_ble_eq_true rfl⟩ (by omega)) hck hp F G (List.mem_cons_self ..) (by omega) hL hLf hw (by simpa using hqw) ?_
      clear F G
      intro h _ v hv F G
      obtain ⟨u, rfl⟩ := hv
      repeat tb_rel
      refine sbr_is true rfl ?_
      repeat tb_rel
      refine yield_step W F G hL hLf h0 hLp (by simpa using hqp) (i := 4 * chunks) (k := 1) (by first | omega | (simp only [tl] at *; omega)) rfl rfl rfl rfl rfl ?_ ?_
      · repeat tb_rel
        exact ⟨⟨_, by rw [outB_0]⟩, _, rfl⟩
      clear F G
      intro h g d _ os F G
      repeat tb_rel
      refine yield_step W F G hL hLf h0 hLp (by simpa using hqp) (i := 4 * chunks + 1) (k := 0) (by first | omega | (simp only [tl] at *; omega)) rfl rfl rfl rfl rfl ?_ ?_
      · repeat tb_rel
        exact ⟨⟨_, by rw [outB_1, getD_out xs (3 * chunks + 1) (by omega)]; rfl⟩, _, rfl⟩
      clear F G
      intro h g d _ os F G
      repeat tb_rel
      refine seg_execs_nil ?_
      refine seg_execs_nil ?_
      refine seg_execs_nil ?_
      refine seg_end (.ok (.ret .none)) ⟨rfl, rfl, G.fin F hL⟩
    · rw [show tl 2 = 3 from rfl]
      refine sbr_is true rfl ?_
      repeat tb_rel
      refine next_val W (n := xs.length) (AOk.less (n := 9) ⟨rfl, Nat.le_of_ble_eq_true rfl, Nat.le_of_ble_eq_true rfl⟩ (by omega)) hck hp F G (List.mem_cons_self ..) (by omega) hL hLf hw (by simpa using hqw) ?_
      clear F G
      intro h _ v hv F G
      obtain ⟨u, rfl⟩ := hv
      repeat tb_rel
      refine sbr_is false rfl ?_
      repeat tb_rel
      refine ⟨rfl, ?_⟩
      repeat tb_rel
      refine next_val W (n := xs.length) (AOk.less (n := 9) ⟨rfl, Nat.le_of_ble_eq_true rfl, Nat.le_of_ble_eq_true rfl⟩ (by omega)) hck hp F G (List.mem_cons_self ..) (by omega) hL hLf hw (by simpa using hqw) ?_
      clear F G
      intro h _ v hv F G
      obtain ⟨u, rfl⟩ := hv
      repeat tb_rel
      refine yield_step W F G hL hLf h0 hLp (by simpa using hqp) (i := 4 * chunks) (k := 2) (by first | omega | (simp only [tl] at *; omega)) rfl rfl rfl rfl rfl ?_ ?_
      · repeat tb_rel
        exact ⟨⟨_, by rw [outB_0]⟩, _, rfl⟩
      clear F G
      intro h g d _ os F G
      repeat tb_rel
      refine yield_step W F G hL hLf h0 hLp (by simpa using hqp) (i := 4 * chunks + 1) (k := 1) (by first | omega | (simp only [tl] at *; omega)) rfl rfl rfl rfl rfl ?_ ?_
      · repeat tb_rel
        exact ⟨⟨_, by rw [outB_1, or_add16 _ _ (by omega)]⟩, _, rfl⟩
      clear F G
      intro h g d _ os F G
      repeat tb_rel
      refine yield_step W F G hL hLf h0 hLp (by simpa using hqp) (i := 4 * chunks + 2) (k := 0) (by first | omega | (simp only [tl] at *; omega)) rfl rfl rfl rfl rfl ?_ ?_
      · repeat tb_rel
        exact ⟨⟨_, by rw [outB_2, getD_out xs (3 * chunks + 2) (by omega)]; rfl⟩, _, rfl⟩
      clear F G
      intro h g d _ os F G
      repeat tb_rel
      refine seg_execs_nil ?_
      refine seg_execs_nil ?_
      refine seg_execs_nil ?_
      refine seg_end (.ok (.ret .none)) ⟨rfl, rfl, G.fin F hL⟩
  · exact ⟨_, _, _, _, _, _, _, _, rfl, F, G, rfl, m1, m2, m3⟩
theorem genDL_goes (W : It w c b T id it fp0 wr0 [] xs.length (xsP xs) St) (hc : c ≤ 8) (hck : checkBoundCall id ⟨[.ref it], []⟩ = pure ()) (hp : plainId id = true)
    (hx : ∀ j, xs.getD j 0 < 64) (hlen : xs.length = 4 * chunks + tail) (ht : tail = 0 ∨ tail = 2 ∨ tail = 3)
    (F : Wk hE L h h m [(q, wrapObj id (.ref it))]) (G : Gp w fp wr St g d os s₀ 0 h) (hL : L ∈ wr) (hLf : L ∉ fp0) (hw : ∀ a ∈ wr0, a ∈ wr) (h0 : ∀ a ∈ fp0, a ∈ fp) (hLp : L ∈ fp) (hqw : q ∉ wr0) (hqp : q ∈ fp)
    (m1 : m "next_value" = some (.ref q)) (m2 : m "chunks" = some (.int (chunks : Int) tk1)) (m3 : m "tail" = some (.int (tail : Int) tk2)) :
    Seg (model pg w) (AN 20) (GR wr) (GY (3 * chunks + tld tail) (oP (decL xs)) fp wr) (3 * chunks + tld tail) s₀ (.func (bodyOf fd149S.1) (envX fd149S.1.qualname fd149S.1.scope L 149 fd149S.1.code []))
      ((model pg w).den (.func (bodyOf fd149S.1) (envX fd149S.1.qualname fd149S.1.scope L 149 fd149S.1.code []))) [] ⟨h, g, d, t, os⟩ := by
  refine seg_func ?_
  have X : True := trivial
  refine seg_execs_cons ?_
  repeat tb_rel
  refine seg_While (fun p => ?_)
  refine gen_while (per := 3) (chunks := chunks) (tl := tld tail) (fun i s₀ s => ∃ h t hz m' g d os tki, s = ⟨h, g, d, t, os⟩ ∧ Wk hE L hz h m' [(q, wrapObj id (.ref it))] ∧ Gp w fp wr St g d os s₀ (4 * i) hz ∧ m' "idx" = some (.int (i : Int) tki) ∧ m' "next_value" = some (.ref q) ∧ m' "chunks" = some (.int (chunks : Int) tk1) ∧ m' "tail" = some (.int (tail : Int) tk2)) ?_ ?_ chunks 0 _ _ (by omega) ?_
  · rintro i n s₀ s hi hn ⟨h, t, hz, m', g, d, os, tki, rfl, F, G, m0, m1, m2, m3⟩ next
    have x0 := hx (4 * i); have x1 := hx (4 * i + 1); have x2 := hx (4 * i + 1 + 1); have x3 := hx (4 * i + 1 + 1 + 1)
    repeat tb_rel
    refine ⟨decide_eq_true (by omega), ?_⟩
    refine seg_execs_cons ?_
    repeat tb_rel
    refine next_val W (n := xs.length) (AOk.less (n := 9) ⟨rfl, Nat.le_of_ble_eq_true rfl, Nat.le_of_ble_eq_true rfl⟩ (by omega)) hck hp F G (List.mem_cons_self ..) (by omega) hL hLf hw (by simpa using hqw) ?_
    clear F G
    intro h _ v hv F G
    obtain ⟨u, rfl⟩ := hv
    repeat tb_rel
    refine next_val W (n := xs.length) (AOk.less (n := 9) ⟨rfl, Nat.le_of_ble_eq_true rfl, Nat.le_of_ble_eq_true rfl⟩ (by omega)) hck hp F G (List.mem_cons_self ..) (by omega) hL hLf hw (by simpa using hqw) ?_
    clear F G
    intro h _ v hv F G
    obtain ⟨u, rfl⟩ := hv
    repeat tb_rel
    refine next_val W (n := xs.length) (AOk.less (n := 9) ⟨rfl, Nat.le_of_ble_eq_true rfl, Nat.le_of_ble_eq_true rfl⟩ (by omega)) hck hp F G (List.mem_cons_self ..) (by omega) hL hLf hw (by simpa using hqw) ?_
    clear F G
    intro h _ v hv F G
    obtain ⟨u, rfl⟩ := hv
    repeat tb_rel
    refine next_val W (n := xs.length) (AOk.less (n := 9) ⟨rfl, Nat.le_of_ble_eq_true rfl, Nat.le_of_ble_eq_true rfl⟩ (by omega)) hck hp F G (List.mem_cons_self ..) (by omega) hL hLf hw (by simpa using hqw) ?_
    clear F G
    intro h _ v hv F G
    obtain ⟨u, rfl⟩ := hv
    repeat tb_rel
    refine yield_step W F G hL hLf h0 hLp (by simpa using hqp) (i := 3 * i) (k := n + 2) (by first | omega | (simp only [tld] at *; omega)) rfl rfl rfl rfl rfl ?_ ?_
    · repeat tb_rel
      exact ⟨⟨_, by rw [decL_0, or_add64' _ _ (by omega)]⟩, _, rfl⟩
    clear F G
    intro h g d _ os F G
    repeat tb_rel
    refine yield_step W F G hL hLf h0 hLp (by simpa using hqp) (i := 3 * i + 1) (k := n + 1) (by first | omega | (simp only [tld] at *; omega)) rfl rfl rfl rfl rfl ?_ ?_
    · repeat tb_rel
      exact ⟨⟨_, by rw [decL_1, or_add16' _ _ (by omega)]⟩, _, rfl⟩
    clear F G
    intro h g d _ os F G
    repeat tb_rel
    refine yield_step W F G hL hLf h0 hLp (by simpa using hqp) (i := 3 * i + 2) (k := n) (by first | omega | (simp only [tld] at *; omega)) rfl rfl rfl rfl rfl ?_ ?_
    · repeat tb_rel
      exact ⟨⟨_, by rw [decL_2, or_add4' _ _ (by omega)]⟩, _, rfl⟩
    clear F G
    intro h g d _ os F G
    repeat tb_rel
    exact next _ _ ⟨_, _, _, _, _, _, _, _, rfl, F, G, rfl, m1, m2, m3⟩
  · rintro s₀ s ⟨h, t, hz, m', g, d, os, tki, rfl, F, G, m0, m1, m2, m3⟩
    repeat tb_rel
    refine ⟨decide_eq_false (by omega), ?_⟩
    refine seg_leaf (.ok .next) ?_
    refine seg_execs_cons ?_
    repeat tb_rel
    have x0 := hx (4 * chunks); have x1 := hx (4 * chunks + 1); have x2 := hx (4 * chunks + 1 + 1)
    rcases ht with rfl|rfl|rfl
    · refine sbr_is false rfl ?_
      refine sbr_f ?_
      refine seg_execs_nil ?_
      refine seg_execs_nil ?_
      refine seg_end (.ok (.ret .none)) ⟨rfl, rfl, G.fin F hL⟩
    · rw [show tld 2 = 1 from rfl]
      refine sbr_is true rfl ?_
      repeat tb_rel
      refine next_val W (n := xs.length) (AOk.less (n := 9) ⟨rfl, Nat.le_of_ble_eq_true rfl, Nat.le_of_ble_eq_true rfl⟩ (by omega)) hck hp F G (List.mem_cons_self ..) (by omega) hL hLf hw (by simpa using hqw) ?_
      clear F G
      intro h _ v hv F G
      obtain ⟨u, rfl⟩ := hv
      repeat tb_rel
      refine next_val W (n := xs.length) (AOk.less (n := 9) ⟨rfl, Nat.le_of_ble_eq_true rfl, Nat.le_of_ble_eq_true rfl⟩ (by omega)) hck hp F G (List.mem_cons_self ..) (by omega) hL hLf hw (by simpa using hqw) ?_
      clear F G
      intro h _ v hv F G
      obtain ⟨u, rfl⟩ := hv
      repeat tb_rel
      refine yield_step W F G hL hLf h0 hLp (by simpa using hqp) (i := 3 * chunks) (k := 0) (by first | omega | (simp only [tld] at *; omega)) rfl rfl rfl rfl rfl ?_ ?_
      · repeat tb_rel
        exact ⟨⟨_, by rw [decL_0, or_add64' _ _ (by omega)]⟩, _, rfl⟩
      clear F G
      intro h g d _ os F G
      repeat tb_rel
      refine sbr_is false rfl ?_
      refine sbr_f ?_
      refine seg_execs_nil ?_
      refine seg_execs_nil ?_
      refine seg_execs_nil ?_
      refine seg_end (.ok (.ret .none)) ⟨rfl, rfl, G.fin F hL⟩
    · rw [show tld 3 = 2 from rfl]
      refine sbr_is true rfl ?_
      repeat tb_rel
      refine next_val W (n := xs.length) (AOk.less (n := 9) ⟨rfl, Nat.le_of_ble_eq_true rfl, Nat.le_of_ble_eq_true rfl⟩ (by omega)) hck hp F G (List.mem_cons_self ..) (by omega) hL hLf hw (by simpa using hqw) ?_
      clear F G
      intro h _ v hv F G
      obtain ⟨u, rfl⟩ := hv
      repeat tb_rel
      refine next_val W (n := xs.length) (AOk.less (n := 9) ⟨rfl, Nat.le_of_ble_eq_true rfl, Nat.le_of_ble_eq_true rfl⟩ (by omega)) hck hp F G (List.mem_cons_self ..) (by omega) hL hLf hw (by simpa using hqw) ?_
      clear F G
      intro h _ v hv F G
      obtain ⟨u, rfl⟩ := hv
      repeat tb_rel
      refine yield_step W F G hL hLf h0 hLp (by simpa using hqp) (i := 3 * chunks) (k := 1) (by first | omega | (simp only [tld] at *; omega)) rfl rfl rfl rfl rfl ?_ ?_
      · repeat tb_rel
        exact ⟨⟨_, by rw [decL_0, or_add64' _ _ (by omega)]⟩, _, rfl⟩
      clear F G
      intro h g d _ os F G
      repeat tb_rel
      refine sbr_is true rfl ?_
      repeat tb_rel
      refine next_val W (n := xs.length) (AOk.less (n := 9) ⟨rfl, Nat.le_of_ble_eq_true rfl, Nat.le_of_ble_eq_true rfl⟩ (by omega)) hck hp F G (List.mem_cons_self ..) (by omega) hL hLf hw (by simpa using hqw) ?_
      clear F G
      intro h _ v hv F G
      obtain ⟨u, rfl⟩ := hv
      repeat tb_rel
      refine yield_step W F G hL hLf h0 hLp (by simpa using hqp) (i := 3 * chunks + 1) (k := 0) (by first | omega | (simp only [tld] at *; omega)) rfl rfl rfl rfl rfl ?_ ?_
      · repeat tb_rel
        exact ⟨⟨_, by rw [decL_1, or_add16' _ _ (by omega)]⟩, _, rfl⟩
      clear F G
      intro h g d _ os F G
      repeat tb_rel
      refine seg_execs_nil ?_
      refine seg_execs_nil ?_
      refine seg_execs_nil ?_
      refine seg_end (.ok (.ret .none)) ⟨rfl, rfl, G.fin F hL⟩
  · exact ⟨_, _, _, _, _, _, _, _, rfl, F, G, rfl, m1, m2, m3⟩
theorem genDB_goes (W : It w c b T id it fp0 wr0 [] xs.length (xsP xs) St) (hc : c ≤ 8) (hck : checkBoundCall id ⟨[.ref it], []⟩ = pure ()) (hp : plainId id = true)
    (hx : ∀ j, xs.getD j 0 < 64) (hlen : xs.length = 4 * chunks + tail) (ht : tail = 0 ∨ tail = 2 ∨ tail = 3)
    (F : Wk hE L h h m [(q, wrapObj id (.ref it))]) (G : Gp w fp wr St g d os s₀ 0 h) (hL : L ∈ wr) (hLf : L ∉ fp0) (hw : ∀ a ∈ wr0, a ∈ wr) (h0 : ∀ a ∈ fp0, a ∈ fp) (hLp : L ∈ fp) (hqw : q ∉ wr0) (hqp : q ∈ fp)
    (m1 : m "next_value" = some (.ref q)) (m2 : m "chunks" = some (.int (chunks : Int) tk1)) (m3 : m "tail" = some (.int (tail : Int) tk2)) :
    Seg (model pg w) (AN 20) (GR wr) (GY (3 * chunks + tld tail) (oP (decB xs)) fp wr) (3 * chunks + tld tail) s₀ (.func (bodyOf fd156S.1) (envX fd156S.1.qualname fd156S.1.scope L 156 fd156S.1.code []))
      ((model pg w).den (.func (bodyOf fd156S.1) (envX fd156S.1.qualname fd156S.1.scope L 156 fd156S.1.code []))) [] ⟨h, g, d, t, os⟩ := by
  refine seg_func ?_
  have X : True := trivial
  refine seg_execs_cons ?_
  repeat tb_rel
  refine seg_While (fun p => ?_)
  refine gen_while (per := 3) (chunks := chunks) (tl := tld tail) (fun i s₀ s => ∃ h t hz m' g d os tki, s = ⟨h, g, d, t, os⟩ ∧ Wk hE L hz h m' [(q, wrapObj id (.ref it))] ∧ Gp w fp wr St g d os s₀ (4 * i) hz ∧ m' "idx" = some (.int (i : Int) tki) ∧ m' "next_value" = some (.ref q) ∧ m' "chunks" = some (.int (chunks : Int) tk1) ∧ m' "tail" = some (.int (tail : Int) tk2)) ?_ ?_ chunks 0 _ _ (by omega) ?_
  · rintro i n s₀ s hi hn ⟨h, t, hz, m', g, d, os, tki, rfl, F, G, m0, m1, m2, m3⟩ next
    have x0 := hx (4 * i); have x1 := hx (4 * i + 1); have x2 := hx (4 * i + 1 + 1); have x3 := hx (4 * i + 1 + 1 + 1)
    repeat tb_rel
    refine ⟨decide_eq_true (by omega), ?_⟩
    refine seg_execs_cons ?_
    repeat tb_rel
    refine next_val W (n := xs.length) (AOk.less (n := 9) ⟨rfl, Nat.le_of_ble_eq_true rfl, Nat.le_of_ble_eq_true rfl⟩ (by omega)) hck hp F G (List.mem_cons_self ..) (by omega) hL hLf hw (by simpa using hqw) ?_
    clear F G
    intro h _ v hv F G
    obtain ⟨u, rfl⟩ := hv
    repeat tb_rel
    refine next_val W (n := xs.length) (AOk.less (n := 9) ⟨rfl, Nat.le_of_ble_eq_true rfl, Nat.le_of_ble_eq_true rfl⟩ (by omega)) hck hp F G (List.mem_cons_self ..) (by omega) hL hLf hw (by simpa using hqw) ?_
    clear F G
    intro h _ v hv F G
    obtain ⟨u, rfl⟩ := hv
    repeat tb_rel
    refine next_val W (n := xs.length) (AOk.less (n := 9) ⟨rfl, Nat.le_of_ble_eq_true rfl, Nat.le_of_ble_eq_true rfl⟩ (by omega)) hck hp F G (List.mem_cons_self ..) (by omega) hL hLf hw (by simpa using hqw) ?_
    clear F G
    intro h _ v hv F G
    obtain ⟨u, rfl⟩ := hv
    repeat tb_rel
    refine next_val W (n := xs.length) (AOk.less (n := 9) ⟨rfl, Nat.le_of_ble_eq_true rfl, Nat.le_of_ble_eq_true rfl⟩ (by omega)) hck hp F G (List.mem_cons_self ..) (by omega) hL hLf hw (by simpa using hqw) ?_
    clear F G
    intro h _ v hv F G
    obtain ⟨u, rfl⟩ := hv
    repeat tb_rel
    refine yield_step W F G hL hLf h0 hLp (by simpa using hqp) (i := 3 * i) (k := n + 2) (by first | omega | (simp only [tld] at *; omega)) rfl rfl rfl rfl rfl ?_ ?_
    · repeat tb_rel
      exact ⟨⟨_, by rw [decB_0, or_add4 _ _ (by omega)]⟩, _, rfl⟩
    clear F G
    intro h g d _ os F G
    repeat tb_rel
    refine yield_step W F G hL hLf h0 hLp (by simpa using hqp) (i := 3 * i + 1) (k := n + 1) (by first | omega | (simp only [tld] at *; omega)) rfl rfl rfl rfl rfl ?_ ?_
    · repeat tb_rel
      exact ⟨⟨_, by rw [decB_1, or_add16 _ _ (by omega)]⟩, _, rfl⟩
    clear F G
    intro h g d _ os F G
    repeat tb_rel
    refine yield_step W F G hL hLf h0 hLp (by simpa using hqp) (i := 3 * i + 2) (k := n) (by first | omega | (simp only [tld] at *; omega)) rfl rfl rfl rfl rfl ?_ ?_
    · repeat tb_rel
      exact ⟨⟨_, by rw [decB_2, or_add64 _ _ (by omega)]⟩, _, rfl⟩
    clear F G
    intro h g d _ os F G
    repeat tb_rel
    exact next _ _ ⟨_, _, _, _, _, _, _, _, rfl, F, G, rfl, m1, m2, m3⟩
  · rintro s₀ s ⟨h, t, hz, m', g, d, os, tki, rfl, F, G, m0, m1, m2, m3⟩
    repeat tb_rel
    refine ⟨decide_eq_false (by omega), ?_⟩
    refine seg_leaf (.ok .next) ?_
    refine seg_execs_cons ?_
    repeat tb_rel
    have x0 := hx (4 * chunks); have x1 := hx (4 * chunks + 1); have x2 := hx (4 * chunks + 1 + 1)
    rcases ht with rfl|rfl|rfl
    · refine sbr_is false rfl ?_
      refine sbr_f ?_
      refine seg_execs_nil ?_
      refine seg_execs_nil ?_
      refine seg_end (.ok (.ret .none)) ⟨rfl, rfl, G.fin F hL⟩
    · rw [show tld 2 = 1 from rfl]
      refine sbr_is true rfl ?_
      repeat tb_rel
      refine next_val W (n := xs.length) (AOk.less (n := 9) ⟨rfl, Nat.le_of_ble_eq_true rfl, Nat.le_of_ble_eq_true rfl⟩ (by omega)) hck hp F G (List.mem_cons_self ..) (by omega) hL hLf hw (by simpa using hqw) ?_
      clear F G
      intro h _ v hv F G
      obtain ⟨u, rfl⟩ := hv
      repeat tb_rel
      refine next_val W (n := xs.length) (AOk.less (n := 9) ⟨rfl, Nat.le_of_ble_eq_true rfl, Nat.le_of_ble_eq_true rfl⟩ (by omega)) hck hp F G (List.mem_cons_self ..) (by omega) hL hLf hw (by simpa using hqw) ?_
      clear F G
      intro h _ v hv F G
      obtain ⟨u, rfl⟩ := hv
      repeat tb_rel
      refine yield_step W F G hL hLf h0 hLp (by simpa using hqp) (i := 3 * chunks) (k := 0) (by first | omega | (simp only [tld] at *; omega)) rfl rfl rfl rfl rfl ?_ ?_
      · repeat tb_rel
        exact ⟨⟨_, by rw [decB_0, or_add4 _ _ (by omega)]⟩, _, rfl⟩
      clear F G
      intro h g d _ os F G
      repeat tb_rel
      refine sbr_is false rfl ?_
      refine sbr_f ?_
      refine seg_execs_nil ?_
      refine seg_execs_nil ?_
      refine seg_execs_nil ?_
      refine seg_end (.ok (.ret .none)) ⟨rfl, rfl, G.fin F hL⟩
    · rw [show tld 3 = 2 from rfl]
      refine sbr_is true rfl ?_
      repeat tb_rel
      refine next_val W (n := xs.length) (AOk.less (n := 9) ⟨rfl, Nat.le_of_ble_eq_true rfl, Nat.le_of_ble_eq_true rfl⟩ (by omega)) hck hp F G (List.mem_cons_self ..) (by omega) hL hLf hw (by simpa using hqw) ?_
      clear F G
      intro h _ v hv F G
      obtain ⟨u, rfl⟩ := hv
      repeat tb_rel
      refine next_val W (n := xs.length) (AOk.less (n := 9) ⟨rfl, Nat.le_of_ble_eq_true rfl, Nat.le_of_ble_eq_true rfl⟩ (by omega)) hck hp F G (List.mem_cons_self ..) (by omega) hL hLf hw (by simpa using hqw) ?_
      clear F G
      intro h _ v hv F G
      obtain ⟨u, rfl⟩ := hv
      repeat tb_rel
      refine yield_step W F G hL hLf h0 hLp (by simpa using hqp) (i := 3 * chunks) (k := 1) (by first | omega | (simp only [tld] at *; omega)) rfl rfl rfl rfl rfl ?_ ?_
      · repeat tb_rel
        exact ⟨⟨_, by rw [decB_0, or_add4 _ _ (by omega)]⟩, _, rfl⟩
      clear F G
      intro h g d _ os F G
      repeat tb_rel
      refine sbr_is true rfl ?_
      repeat tb_rel
      refine next_val W (n := xs.length) (AOk.less (n := 9) ⟨rfl, Nat.le_of_ble_eq_true rfl, Nat.le_of_ble_eq_true rfl⟩ (by omega)) hck hp F G (List.mem_cons_self ..) (by omega) hL hLf hw (by simpa using hqw) ?_
      clear F G
      intro h _ v hv F G
      obtain ⟨u, rfl⟩ := hv
      repeat tb_rel
      refine yield_step W F G hL hLf h0 hLp (by simpa using hqp) (i := 3 * chunks + 1) (k := 0) (by first | omega | (simp only [tld] at *; omega)) rfl rfl rfl rfl rfl ?_ ?_
      · repeat tb_rel
        exact ⟨⟨_, by rw [decB_1, or_add16 _ _ (by omega)]⟩, _, rfl⟩
      clear F G
      intro h g d _ os F G
      repeat tb_rel
      refine seg_execs_nil ?_
      refine seg_execs_nil ?_
      refine seg_execs_nil ?_
      refine seg_end (.ok (.ret .none)) ⟨rfl, rfl, G.fin F hL⟩
  · exact ⟨_, _, _, _, _, _, _, _, rfl, F, G, rfl, m1, m2, m3⟩
end
end
section
/-- what a call for bytes looks up in an iterator's type -/
structure PlainIt (T : String) : Prop where
  nb : typeLookup (.type T) "__bytes__" = pure none
  ni : typeLookup (.type T) "__index__" = pure none
  nu : typeLookup (.type T) "__buffer__" = pure none
  nl : typeLookup (.type T) "__len__" = pure none
  nh : typeLookup (.type T) "__length_hint__" = pure none
theorem plain_gen : PlainIt "generator" := ⟨by rw [typeLookup_type, builtinLookup_eq_fast]; kernel_rfl, by rw [typeLookup_type, builtinLookup_eq_fast]; kernel_rfl, by rw [typeLookup_type, builtinLookup_eq_fast]; kernel_rfl, by rw [typeLookup_type, builtinLookup_eq_fast]; kernel_rfl, by rw [typeLookup_type, builtinLookup_eq_fast]; kernel_rfl⟩
theorem plain_map : PlainIt "map" := ⟨by rw [typeLookup_type, builtinLookup_eq_fast]; kernel_rfl, by rw [typeLookup_type, builtinLookup_eq_fast]; kernel_rfl, by rw [typeLookup_type, builtinLookup_eq_fast]; kernel_rfl, by rw [typeLookup_type, builtinLookup_eq_fast]; kernel_rfl, by rw [typeLookup_type, builtinLookup_eq_fast]; kernel_rfl⟩
def outArr (f : Nat → Nat) (n : Nat) : Array UInt8 := ((List.range n).map fun i => (f i).toUInt8).toArray
theorem outArr_succ (f : Nat → Nat) (n : Nat) : outArr f (n + 1) = (outArr f n).push (f n).toUInt8 := by
  unfold outArr; rw [List.range_succ, List.map_append]; simp
section
variable {w : World} {A : Around} {c : Nat} {b : Builtin} {T id : String} {I S : Addr} {fp wr : List Addr} {gr : List Nat} {n : Nat} {f : Nat → Nat} {St : Nat → Shared → Prop} {E : Value → Shared → Prop}
theorem bytes_loop {R : Result → Shared → Prop} (W : It w c b T id I fp wr gr n (oP f) St) (hA : AOk A (c + 2)) (hf : ∀ i < n, f i < 256) (hn : n ≤ 100000) (hS : S ∉ fp) :
    ∀ (k i : Nat) (s : Shared), n - i = k → i ≤ n → St i s → s.heap.get? S = some { cls := .type "bytearray", data := .bytearray (outArr f i) } →
      (∀ s' t, Mv (S :: wr) gr s s' → R (.ok (.ret (.bytes (outArr f n) t))) s') →
      codeAny (model pg w) A (.builtin "bytes.__new__.loop" ⟨[.type "bytes", .ref I, .ref S], []⟩) R s
  | 0, i, s, hk, hle, st, hb, hR => by
    obtain rfl : i = n := by omega
    refine codeAny_builtin F.bm_entry_loop ?_
    rw [Around.under_plainId F.bm_plain_loop _]
    show wpAny _ A.in1 (pyNext (.ref I) >>= _) _ _ s
    refine wpAny_bind (W.py_done (hA.in1) st fun s' mv => ?_)
    have hS' := mv.keep S _ (fun q => hS (W.sub _ q)) hb
    refine wpAny_bind ?_
    unfold Builtin.Bytes.payload Builtin.Bytes.payload?
    refine wpAny_bind (wpAny_bind (wpAny_load hS' ?_))
    refine wpAny_pure (wpAny_pure ?_)
    refine wpAny_bind (wpAny_mkBytes ?_ (by unfold outArr; rw [List.size_toArray, List.length_map, List.length_range, sizeLine_eq]; omega))
    show wpAny _ _ (if (Value.type "bytes" == Value.type "bytes") = true then _ else _) _ _ _
    refine bm_if_true (by decide) ?_
    have mv' : Mv (S :: wr) gr s { s' with toks := s'.toks + 1 } := (mv.mono (fun b hb => List.mem_cons_of_mem _ hb) (fun _ h => h)).tok _
    first
      | exact wpAny_pure (hR _ _ mv')
      | exact wpAny_bind (wpAny_pure (wpAny_pure (hR _ _ mv')))
  | k + 1, i, s, hk, hle, st, hb, hR => by
    have hlt : i < n := by omega
    refine codeAny_builtin F.bm_entry_loop ?_
    rw [Around.under_plainId F.bm_plain_loop _]
    show wpAny _ A.in1 (pyNext (.ref I) >>= _) _ _ s
    refine wpAny_bind (W.py_item hA.in1 hlt st fun v s' p st' mv => ?_)
    obtain ⟨u, rfl⟩ := p
    have hS' := mv.keep S _ (fun q => hS (W.sub _ q)) hb
    refine wpAny_bind (wpAny_holding (wpAny_of_eq (rfl : asIndex (.int (f i : Int) u) = pure (f i : Int)) ?_))
    refine wpAny_bind (wpAny_letGo ?_)
    have hfi := hf i hlt
    refine bm_if_false (by simp only [Bool.or_eq_false_iff, decide_eq_false_iff_not]; omega) ?_
    refine wpAny_bind ?_
    show wpAny _ _ (updateBytearray S (·.push ((f i : Int).toNat).toUInt8)) _ _ _
    unfold updateBytearray
    refine wpAny_bind (wpAny_load hS' ?_)
    show wpAny _ _ (update S (Obj.mapBytearray (·.push ((f i : Int).toNat).toUInt8)) >>= fun _ => lookBehind S) _ _ _
    refine wpAny_bind (wpAny_update hS' ?_)
    have hS₂ : (s'.heap.update S (Obj.mapBytearray (·.push ((f i : Int).toNat).toUInt8))).get? S = some { cls := .type "bytearray", data := .bytearray (outArr f (i + 1)) } := by
      rw [outArr_succ]
      exact Heap.get?_update_self (Obj.mapBytearray (·.push ((f i : Int).toNat).toUInt8)) hS' rfl
    have sb : Heap.SameBut S s'.heap (s'.heap.update S (Obj.mapBytearray (·.push ((f i : Int).toNat).toUInt8))) := Heap.SameBut.update ..
    refine wpAny_lookBehind hS₂ ?_ ?_
    · show (if (outArr f (i + 1)).size > sizeLine then some "bytearray:memory" else none) = none
      rw [if_neg]
      unfold outArr
      rw [List.size_toArray, List.length_map, List.length_range, sizeLine_eq]
      omega
    · refine wpAny_pure ⟨plainId_quiet F.bm_plain_loop _, bytes_loop W hA hf hn hS k (i + 1) { s' with heap := s'.heap.update S (Obj.mapBytearray (·.push ((f i : Int).toNat).toUInt8)) } (by omega) hlt ?_ hS₂ fun s3 t mv3 => ?_⟩
      · exact W.frame _ s' _ st' (fun b hb o e => sb.extBut b o (fun q => hS (q ▸ hb)) e) (fun _ _ => rfl)
      · exact hR _ _ ((mv.mono (fun b hb => List.mem_cons_of_mem _ hb) (fun _ h => h)).trans ((Mv.of_same sb (List.mem_cons_self ..) hS₂).trans mv3))
theorem bytes_new {Q : Value → Shared → Prop} {s : Shared} (PT : PlainIt T) (hiter : ∀ (A : Around) (E : Value → Shared → Prop) (s : Shared) (Q : Value → Shared → Prop), St 0 s → Q (.ref I) s → wpAny (model pg w) A (pyIter (.ref I)) Q E s)
    (hd : ∀ o, s.heap.get? I = some o → ∃ fs, o.data = .fields fs) (W : It w c b T id I fp wr gr n (oP f) St) (hA : AOk A (c + 4)) (hf : ∀ i < n, f i < 256) (hn : n ≤ 100000) (st : St 0 s) (hfp : ∀ b ∈ fp, ∃ o, s.heap.get? b = some o)
    (hQ : ∀ s' t, Mv wr gr s s' → Q (.bytes (outArr f n) t) s') :
    codeAny (model pg w) A (.call (.builtin "bytes.__new__") ⟨[.type "bytes", .ref I], []⟩) (wants Q E) s := by
  refine codeAny_of_tree ?_
  show wpAny _ A.in1 (do checkBuiltinCall "bytes.__new__" ⟨[.type "bytes", .ref I], []⟩; again (.builtin "bytes.__new__" ⟨[.type "bytes", .ref I], []⟩)) _ _ s
  refine wpAny_bind (wpAny_of_eq (F.bm_newCall _) (wpAny_pure ⟨plainId_quiet F.bm_plain _, codeAny_builtin F.bm_entry ?_⟩))
  rw [Around.under_plainId F.bm_plain _]
  have hT : s.TypeIs (.ref I) T := W.ty _ _ st
  have hT2 := hT
  obtain ⟨ol, hol, hoc⟩ := hT2
  obtain ⟨fs, hod⟩ := hd ol hol
  unfold Builtin.«bytes.__new__»
  refine wpAny_bind (wpAny_of_eq (a := true) rfl ?_)
  refine bm_if_false rfl ?_
  refine wpAny_bind (wpAny_of_eq F.bm_sub ?_)
  refine bm_if_false rfl ?_
  refine wpAny_bind (wpAny_of_eq (F.bm_bind _) ?_)
  refine wpAny_bind (wpAny_of_eq (a := ()) rfl ?_)
  refine wpAny_bind (wpAny_of_eq (a := ()) rfl ?_)
  refine bm_if_false rfl ?_
  refine wpAny_bind (wpAny_specialOf hT PT.nb ?_)
  refine wpAny_bind (wpAny_bind ?_)
  show wpAny _ _ (load I >>= _) _ _ _
  refine wpAny_bind (wpAny_load hol ?_)
  rw [hod]
  refine wpAny_pure (wpAny_pure ?_)
  refine bm_if_false rfl ?_
  refine wpAny_bind (wpAny_specialOf hT PT.ni ?_)
  refine bm_if_true rfl ?_
  first
    | show wpAny _ _ (Builtin.Bytes.buffer? "bytes.__new__" (.ref I) true >>= _) _ _ _
    | (refine wpAny_bind ?_; show wpAny _ _ (Builtin.Bytes.buffer? "bytes.__new__" (.ref I) true >>= _) _ _ _)
  refine wpAny_bind ?_
  unfold Builtin.Bytes.buffer?
  refine wpAny_bind (wpAny_specialOf hT PT.nu ?_)
  refine wpAny_bind (wpAny_specialOf hT PT.nu ?_)
  refine wpAny_pure ?_
  refine wpAny_bind (wpAny_tryCatch (hiter _ _ _ _ st ?_))
  refine wpAny_bind (wpAny_holding ?_)
  unfold Builtin.Bytes.lengthHint
  refine wpAny_bind (wpAny_specialOf hT PT.nl ?_)
  refine bm_if_false rfl ?_
  refine bm_if_false rfl ?_
  refine wpAny_bind (wpAny_specialOf hT PT.nh ?_)
  refine wpAny_pure ?_
  refine wpAny_bind ?_
  unfold Builtin.Bytes.newBytearray
  refine wpAny_newObj_type ?_ (Nat.zero_le _)
  have sn : s.heap.get? s.heap.objs.size = none := by
    cases e : s.heap.get? s.heap.objs.size with
    | none => rfl
    | some o => exact absurd (Heap.lt_size e) (Nat.lt_irrefl _)
  have kp : Keeps s.heap (s.heap.push { cls := .type "bytearray", data := .bytearray #[] }) := fun b o e => Heap.get?_push_of_some _ e
  have main := bytes_loop (R := wants Q E) (S := s.heap.objs.size) W (hA.less (by omega)) hf hn (fun q => by obtain ⟨o, e⟩ := hfp _ q; rw [sn] at e; cases e) n 0 { s with heap := s.heap.push { cls := .type "bytearray", data := .bytearray #[] } } rfl (Nat.zero_le _)
    (W.frame _ s _ st (fun b hb o e => kp b o e) (fun _ _ => rfl)) (Heap.get?_push_size _ rfl)
    fun s' t mv => hQ s' t ⟨fun b o nb e => mv.keep b o (fun q => (List.mem_cons.mp q).elim (fun x => by rw [x, sn] at e; cases e) nb) (kp b o e), fun b o e => mv.live b o (kp b o e), mv.gsz, mv.gens, mv.drawn, mv.os, mv.bare⟩
  first
    | exact wpAny_pure ⟨plainId_quiet F.bm_plain_loop _, main⟩
    | exact wpAny_pure (wpAny_pure ⟨plainId_quiet F.bm_plain_loop _, main⟩)
theorem bytes_of {Q : Value → Shared → Prop} {s : Shared} (PT : PlainIt T) (hiter : ∀ (A : Around) (E : Value → Shared → Prop) (s : Shared) (Q : Value → Shared → Prop), St 0 s → Q (.ref I) s → wpAny (model pg w) A (pyIter (.ref I)) Q E s)
    (hd : ∀ o, s.heap.get? I = some o → ∃ fs, o.data = .fields fs) (W : It w c b T id I fp wr gr n (oP f) St) (hA : AOk A (c + 6)) (hf : ∀ i < n, f i < 256) (hn : n ≤ 100000) (st : St 0 s) (hfp : ∀ b ∈ fp, ∃ o, s.heap.get? b = some o)
    (hQ : ∀ s' t, Mv wr gr s s' → Q (.bytes (outArr f n) t) s') : wpAny (model pg w) A (call (.type "bytes") [.ref I]) Q E s := by
  refine callType_codes (Q₁ := fun obj s₁ => s₁.TypeIs obj "bytes" ∧ Q obj s₁) F.bm_called (F.bm_typeCall _) F.entry_object_init
    (bytes_new PT hiter hd W (AOk.in1 (hA.less (by omega))) hf hn st hfp fun s' t mv => ⟨PySem.W.typeIs_bytes _ _ _, hQ s' t mv⟩) fun obj s₁ h₁ => ?_
  exact ⟨h₁.1, F.args_object_init_2 obj _, object_init_meets F.bm_called.init.lookup F.bm_called.made (by decide) pg w A.in1 _ s₁ ⟨h₁.1, rfl, h₁.2⟩⟩
end
end
section
section
variable {w : World} {c c2 : Nat} {b : Builtin} {T id : String} {I z TI : Addr} {fp wr fpf : List Addr} {gr : List Nat} {n : Nat} {P P' : Nat → Value → Prop} {St : Nat → Shared → Prop} {Hf : Heap → Prop} {f : Value}
theorem slot_map_next : Slot "map" "__next__" "map.__next__" := .of (owner := "map") (n := "__next__") (by rw [typeLookup_type, builtinLookup_eq_fast]; kernel_rfl) (by decide +kernel) (by decide +kernel) (by decide +kernel)
    (by first | exact .inl (by decide +kernel) | exact .inr (by decide +kernel)) (by rw [isSubtype_type]; kernel_rfl)
theorem entry_map_next : entryFor table "map.__next__" = some Builtin.«map.__next__» := by first | exact entryFor_of_fast (by kernel_rfl) | exact entryFor_of_tree (by kernel_rfl)
theorem args_map_next (a : Value) : argsOk "map.__next__" ⟨[a], []⟩ := by unfold argsOk; kernel_rfl
def mapObj (TI : Addr) (f : Value) : Obj := ⟨.type "map", none, .fields #[.ref TI, f], #[]⟩
def tup1 (I : Addr) : Obj := ⟨.type "tuple", none, .seq #[.ref I] 0, #[]⟩
theorem It.map (W : It w c b T id I fp wr gr n P St) (hfr : ∀ h h', Hf h → (∀ b ∈ fpf, ∀ o, h.get? b = some o → h'.get? b = some o) → Hf h') (hfw : ∀ b ∈ wr, b ∉ fpf) (zw : z ∉ wr) (tw : TI ∉ wr)
    (fc : ∀ A, AOk A c2 → ∀ i v (s : Shared) (Q : Value → Shared → Prop) E, i < n → P i v → Hf s.heap → (∀ v' s', P' i v' → Mv [] [] s s' → Q v' s') → wpAny (model pg w) A (call f [v]) Q E s) (hc2 : c2 ≤ c + 1) :
    It w (c + 1) Builtin.«map.__next__» "map" "map.__next__" z ([z, TI] ++ fp ++ fpf) wr gr n P' (fun i s => s.heap.get? z = some (mapObj TI f) ∧ s.heap.get? TI = some (tup1 I) ∧ St i s ∧ Hf s.heap) where
  sub := fun b hb => by simp [W.sub b hb]
  slot := slot_map_next
  entry := entry_map_next
  args := args_map_next _
  live := fun i s st => W.live i s st.2.2.1
  ty := fun i s st => ⟨_, st.1, rfl⟩
  frame := fun i s s' st hk hj => ⟨hk z (by simp) _ st.1, hk TI (by simp) _ st.2.1, W.frame i s s' st.2.2.1 (fun b hb => hk b (by simp [hb])) hj, hfr _ _ st.2.2.2 fun b hb => hk b (by simp [hb])⟩
  item := fun A hA i s Q E hi st hQ => by
    obtain ⟨hz, hT, st, hf⟩ := st
    show wpAny _ _ (field (.ref z) 0 >>= _) _ _ _
    refine wpAny_bind (wpAny_field hz rfl (x := .ref TI) rfl ?_)
    refine wpAny_bind (wpAny_seqItems hT rfl ?_)
    refine wpAny_bind ?_
    simp only [Array.forIn_toList.symm, List.forIn_cons, List.forIn_nil]
    refine wpAny_bind (wpAny_bind (wpAny_holding (W.nx_item hA hi st fun v s' p st' mv => ?_)))
    refine wpAny_pure (wpAny_pure ?_)
    show wpAny _ _ (field (.ref z) 1 >>= _) _ _ _
    refine wpAny_bind (wpAny_field (mv.keep z _ zw hz) rfl (x := f) rfl ?_)
    refine wpAny_bind (wpAny_holding ?_)
    refine fc _ (hA.less hc2) i v s' _ _ hi p (hfr _ _ hf fun b hb o e => mv.keep b o (fun q => hfw b q hb) e) fun v' s'' p' mv' => ?_
    refine wpAny_bind (wpAny_letGo ?_)
    refine wpAny_pure (hQ v' s'' p' ⟨mv'.keep _ _ (by simp) (mv.keep z _ zw hz), mv'.keep _ _ (by simp) (mv.keep TI _ tw hT), ?_, ?_⟩ (mv.trans (mv'.mono (by simp) (by simp))))
    · exact W.frame _ _ _ st' (fun b hb o e => mv'.keep b o (by simp) e) (fun j _ => mv'.gens j (by simp))
    · exact hfr _ _ hf fun b hb o e => mv'.keep b o (by simp) (mv.keep b o (fun q => hfw b q hb) e)
  done := fun A hA s Q E st hE => by
    obtain ⟨hz, hT, st, hf⟩ := st
    show wpAny _ _ (field (.ref z) 0 >>= _) _ _ _
    refine wpAny_bind (wpAny_field hz rfl (x := .ref TI) rfl ?_)
    refine wpAny_bind (wpAny_seqItems hT rfl ?_)
    refine wpAny_bind ?_
    simp only [Array.forIn_toList.symm, List.forIn_cons, List.forIn_nil]
    refine wpAny_bind (wpAny_bind (wpAny_holding (W.nx_done hA st fun e s' x mv => hE e s' x mv)))
end
end
section
section
variable {w : World} {A : Around} {E : Value → Shared → Prop} {Q : Value → Shared → Prop} {s : Shared}
def bmObj (id : String) (self : Value) : Obj := ⟨.type "builtin_function_or_method", none, .fields #[.builtin id, self], #[]⟩
theorem call_bmH {q : Addr} {id : String} {self : Value} {args : List Value} {b : Builtin} (ho : s.heap.get? q = some (bmObj id self)) (hc : ∀ (A : Around) (E : Value → Shared → Prop) (Q : Unit → Shared → Prop), Q () s → wpAny (model pg w) A (checkBoundCall id ⟨self :: args, []⟩) Q E s) (hq : plainId id = true) (hb : entryFor table id = some b)
    (k : wpAny (model pg w) A.in1 (b ⟨self :: args, []⟩) (FinQ Q) E s) : wpAny (model pg w) A (call (.ref q) args) Q E s := by
  refine wpAny_call (codeAny_of_tree ?_)
  show wpAny _ A.in1 (callAny (.ref q) ⟨args, []⟩) _ _ s
  simp only [callAny]
  refine wpAny_bind (wpAny_load ho ?_)
  simp only [bmObj, show (Value.type "builtin_function_or_method" == Value.type "method" || Value.type "builtin_function_or_method" == Value.type "builtin_function_or_method" || Value.type "builtin_function_or_method" == Value.type "method-wrapper") = true by decide, if_true]
  refine KFB.if_so (by decide) ?_
  refine wpAny_bind (hc _ _ _ ?_)
  refine wpAny_bind (wpAny_pure (wpAny_pure ?_))
  refine ⟨plainId_quiet hq _, codeAny_builtin hb ?_⟩
  rw [Around.under_plainId hq]
  refine wpAny_mono k (fun fin s' h => ?_) fun _ _ h => h
  cases fin with
  | done f => cases f with
    | ret v => exact h
    | _ => exact h.elim
  | again c => exact h.elim
theorem callD {q : Addr} {id : String} {self : Value} {pos : Pos} {env : Env} {e : PySem.Expr} {rest : List PySem.Expr} 
    (k : wpAny (model pg w) A (spliced (backTo pos (starEach (e :: rest) env))) (fun vs s₁ => s₁.heap.get? q = some (bmObj id self) ∧ wpAny (model pg w) A (call (.ref q) vs) Q E s₁) E s)
    (he : starEach (e :: rest) env = (false, eval e env) :: starEach rest env) (hplain : (backTo pos (starEach rest env)).any (·.1) = false) :
    wpAny (model pg w) A (callWith pos (.ref q) [] (backTo pos (starEach (e :: rest) env)) []) Q E s := by
  refine callWith_of (P := fun h => h.get? q = some (bmObj id self)) (by rw [he]; show ((false || (backTo pos (starEach rest env)).any (·.1)) || false) = false; rw [hplain]; rfl) (fun h e => ⟨.machine, .inr (.inl rfl), (Looks.ld e).andThen .now⟩) (by rw [he] at k ⊢; exact evalArgs_plain k)
theorem call_wrapG {q : Addr} {id : String} {self : Value} {args : List Value} {b : Builtin} {made : Made} (ho : s.heap.get? q = some (wrapObj id self)) (hc : checkBoundCall id ⟨self :: args, []⟩ = pure ()) (hq : plainId id = true) (hb : entryFor table id = some b)
    (gv : Gives (b ⟨self :: args, []⟩) made) (k : made.post Q s) : wpAny (model pg w) A (call (.ref q) args) Q E s := by
  refine wpAny_call (codeAny_of_tree ?_)
  show wpAny _ A.in1 (callAny (.ref q) ⟨args, []⟩) _ _ s
  simp only [callAny]
  refine wpAny_bind (wpAny_load ho ?_)
  simp only [wrapObj, show (Value.type "method-wrapper" == Value.type "method" || Value.type "method-wrapper" == Value.type "builtin_function_or_method" || Value.type "method-wrapper" == Value.type "method-wrapper") = true by decide, if_true]
  refine KFB.if_so (by decide) ?_
  refine wpAny_bind (wpAny_of_eq (a := ()) hc ?_)
  refine wpAny_bind (wpAny_pure (wpAny_pure ?_))
  refine ⟨plainId_quiet hq _, codeAny_builtin hb ?_⟩
  rw [Around.under_plainId hq]
  exact gv _ w A (fun r s' => match r with | .ok (.ret v) => Q v s' | .ok _ => False | .error e => E e s') s k
theorem call_bgetI {q : Addr} {chars : Array UInt8} {tk u : Tok} {i : Int} (ho : s.heap.get? q = some (wrapObj "bytes.__getitem__" (.bytes chars tk))) (h0 : 0 ≤ i) (hi : i.toNat < chars.size) (hz : chars.size ≤ 1000000)
    (k : ∀ u t, Q (.int (((chars.getD i.toNat 0).toNat : Nat) : Int) u) { s with toks := t }) : wpAny (model pg w) A (call (.ref q) [.int i u]) Q E s := by
  have e : seqIndex? i chars.size = some i.toNat := by
    have h3 : i < chars.size := by omega
    have h2 : ¬ i < 0 := by omega
    simp [seqIndex?, h2, h3]
  have e2 : (seqIndex? i chars.size).bind (chars[·]?) = some (chars.getD i.toNat 0) := by
    rw [e]
    simp [Array.getD, hi]
  have e3 : Builtin.Bytes.fitsIndex i = true := by
    simp only [Builtin.Bytes.fitsIndex, Bool.and_eq_true, decide_eq_true_eq]; omega
  refine call_wrapG ho (by kernel_rfl) (by decide +kernel) FB.entry_bytes_getitem (W.gives_bytes_getitem chars i tk u _ e3 e2) ?_
  exact k _ _
theorem call_bget {q : Addr} {chars : Array UInt8} {tk u : Tok} {i : Nat} (ho : s.heap.get? q = some (wrapObj "bytes.__getitem__" (.bytes chars tk))) (hi : i < chars.size) (hz : chars.size ≤ 1000000)
    (k : ∀ u t, Q (.int (((chars.getD i 0).toNat : Nat) : Int) u) { s with toks := t }) : wpAny (model pg w) A (call (.ref q) [.int (i : Int) u]) Q E s :=
  call_bgetI ho (Int.natCast_nonneg i) (by rw [Int.toNat_natCast]; exact hi) hz (by rw [Int.toNat_natCast]; exact k)
theorem dg_kind : builtinKind "dict.__getitem__" = some .method := by kernel_rfl
theorem call_dget {q dd : Addr} {G : Int → Option Value} {u : Tok} {i : Int} {v : Value} (ho : s.heap.get? q = some (bmObj "dict.__getitem__" (.ref dd))) (hm : s.heap.IntMap dd G) (hv : G i = some v)
    (k : ∀ t, Q v { s with toks := t }) : wpAny (model pg w) A (call (.ref q) [.int i u]) Q E s := by
  have hT : s.TypeIs (.ref dd) "dict" := let ⟨o, _, _, e, c, _⟩ := hm; ⟨o, e, c⟩
  refine call_bmH ho (fun A E Q h => ?_) (by decide +kernel) PySem.F.entry_dict_getitem ?_
  · unfold checkBoundCall
    have hsome : (Manifest.signature? "dict.__getitem__").isSome = true := by kernel_rfl
    have hck : ∀ sg, Manifest.signature? "dict.__getitem__" = some sg → Bind.checkArgs "dict.__getitem__" { sg with full := s!"{Bind.lastOf "dict"}.{Bind.lastOf "dict.__getitem__"}" } ⟨[.ref dd, .int i u], []⟩ = pure () := by
      intro sg e
      have : (Manifest.signature? "dict.__getitem__").elim (Sem.unsupported "") (fun sg => Bind.checkArgs "dict.__getitem__" { sg with full := s!"{Bind.lastOf "dict"}.{Bind.lastOf "dict.__getitem__"}" } ⟨[.ref dd, .int i u], []⟩) = pure () := by kernel_rfl
      rw [e] at this
      exact this
    cases hsg : Manifest.signature? "dict.__getitem__" with
    | none => rw [hsg] at hsome; cases hsome
    | some sg =>
      dsimp only
      rw [dg_kind]
      dsimp only
      refine KFB.if_not rfl ?_
      refine wpAny_bind (wpAny_isInstance (s := s) (b := false) hT (by rw [isSubtype_type]; kernel_rfl) ?_)
      refine KFB.if_not (by kernel_rfl) ?_
      refine wpAny_bind ?_
      obtain ⟨od, es, ep, hod, hcd, hdd, _⟩ := hm
      unfold isType
      refine wpAny_bind (wpAny_loadPart hod ?_)
      rw [hdd]
      refine wpAny_pure ?_
      refine wpAny_bind (wpAny_typeOf hT ?_)
      exact wpAny_of_eq (hck sg hsg) h
  show wpAny _ _ (Builtin.Dict.keyArg "__getitem__" ⟨[.ref dd, .int i u], []⟩ >>= _) _ _ _
  refine wpAny_bind (wpAny_of_eq (a := (dd, .int i u)) (by first | rfl | kernel_rfl) ?_)
  refine wpAny_bind (wpAny_dictGet_int hm ?_)
  rw [hv]
  exact wpAny_pure (k _)
end
end
section
structure EngP where
  (D q1 q2 q3 q4 dd : Addr)
  (k1 k2 k3 k4 k5 k6 : Int)
  (t1 t2 t3 t4 t5 t6 tb tc : Tok)
  (nn : Nat)
def engDict (p : EngP) (chars : Array UInt8) (big : Bool) : Obj := ⟨.type "dict", none, .dict #[⟨p.k1, .str "bytemap" p.t1, .bytes chars p.tb⟩, ⟨p.k2, .str "_encode64" p.t2, .ref p.q1⟩, ⟨p.k3, .str "_decode64" p.t3, .ref p.q2⟩, ⟨p.k4, .str "big" p.t4, .bool big⟩, ⟨p.k5, .str "_encode_bytes" p.t5, .ref p.q3⟩, ⟨p.k6, .str "_decode_bytes" p.t6, .ref p.q4⟩] p.nn, #[]⟩
structure Eng (h : Heap) (p : EngP) (e : Addr) (chars : Array UInt8) (big : Bool) : Prop where
  self : h.get? e = some (instObj 294 p.D)
  dict : h.get? p.D = some (engDict p chars big)
  w1 : h.get? p.q1 = some (wrapObj "bytes.__getitem__" (.bytes chars p.tc))
  w2 : h.get? p.q2 = some (bmObj "dict.__getitem__" (.ref p.dd))
  w3 : h.get? p.q3 = some (methodObj (.ref (if big then 135 else 128)) (.ref e))
  w4 : h.get? p.q4 = some (methodObj (.ref (if big then 156 else 149)) (.ref e))
  map : ∃ F, h.IntMap p.dd F ∧ ∀ i < chars.size, ∃ u, F ((chars.getD i 0).toNat : Int) = some (.int (i : Int) u)
  size : chars.size = 64
theorem Eng.keep {h h' : Heap} {p : EngP} {e : Addr} {chars : Array UInt8} {big : Bool} (E : Eng h p e chars big) (k : Keeps h h') : Eng h' p e chars big where
  self := k _ _ E.self
  dict := k _ _ E.dict
  w1 := k _ _ E.w1
  w2 := k _ _ E.w2
  w3 := k _ _ E.w3
  w4 := k _ _ E.w4
  map := let ⟨F, ⟨o, es, ep, ho, r⟩, q⟩ := E.map; ⟨F, ⟨o, es, ep, k _ _ ho, r⟩, q⟩
  size := E.size
theorem Eng.inst {h : Heap} {p : EngP} {e : Addr} {chars : Array UInt8} {big : Bool} (E : Eng h p e chars big) : InstAt h e (instObj 294 p.D) 294 (some (engDict p chars big)) := ⟨E.self, rfl, rfl, E.dict⟩
theorem e_ga (P : Params) : findIn (K1 P) (.ref 294) "__getattribute__" = some (some (.builtin "object.__getattribute__")) := by kernel_rfl
theorem e_gn (P : Params) : findIn (K1 P) (.ref 294) "__getattr__" = some none := by kernel_rfl
section
variable {w : World} {A : Around} {E : Value → Shared → Prop} {Q : Value → Shared → Prop} {hp : Heap} {g : Array GenState} {d : Drawn} {t : Nat} {os : OsState} {p : EngP} {e : Addr} {chars : Array UInt8} {big : Bool} {x : Bool}
theorem ga_big (X : Top w hp) (H : Eng hp p e chars big) (k : ∀ t, Q (.bool big) ⟨hp, g, d, t, os⟩) : wpAny (model pg w) A (getAttr (.ref e) "big" x) Q E ⟨hp, g, d, t, os⟩ :=
  get_value X H.inst (e_ga _) (by kernel_rfl) rfl (k _)
theorem ga_bytemap (X : Top w hp) (H : Eng hp p e chars big) (k : ∀ t u, Q (.bytes chars u) ⟨hp, g, d, t, os⟩) : wpAny (model pg w) A (getAttr (.ref e) "bytemap" x) Q E ⟨hp, g, d, t, os⟩ :=
  get_value X H.inst (e_ga _) (by kernel_rfl) rfl (k _ p.tb)
theorem ga_enc64 (X : Top w hp) (H : Eng hp p e chars big) (k : ∀ t, Q (.ref p.q1) ⟨hp, g, d, t, os⟩) : wpAny (model pg w) A (getAttr (.ref e) "_encode64" x) Q E ⟨hp, g, d, t, os⟩ :=
  get_value X H.inst (e_ga _) (by kernel_rfl) rfl (k _)
theorem ga_dec64 (X : Top w hp) (H : Eng hp p e chars big) (k : ∀ t, Q (.ref p.q2) ⟨hp, g, d, t, os⟩) : wpAny (model pg w) A (getAttr (.ref e) "_decode64" x) Q E ⟨hp, g, d, t, os⟩ :=
  get_value X H.inst (e_ga _) (by kernel_rfl) rfl (k _)
theorem ga_encb (X : Top w hp) (H : Eng hp p e chars big) (k : ∀ t, Q (.ref p.q3) ⟨hp, g, d, t, os⟩) : wpAny (model pg w) A (getAttr (.ref e) "_encode_bytes" x) Q E ⟨hp, g, d, t, os⟩ :=
  get_value X H.inst (e_ga _) (by kernel_rfl) rfl (k _)
theorem ga_decb (X : Top w hp) (H : Eng hp p e chars big) (k : ∀ t, Q (.ref p.q4) ⟨hp, g, d, t, os⟩) : wpAny (model pg w) A (getAttr (.ref e) "_decode_bytes" x) Q E ⟨hp, g, d, t, os⟩ :=
  get_value X H.inst (e_ga _) (by kernel_rfl) rfl (k _)
variable {pl : Sem Bool} {Q : Value × List Value → Shared → Prop}
theorem gm_encb (X : Top w hp) (H : Eng hp p e chars big) (k : ∀ t, Q (.ref p.q3, []) ⟨hp, g, d, t, os⟩) : wpAny (model pg w) A (getMethod (.ref e) "_encode_bytes" pl) Q E ⟨hp, g, d, t, os⟩ :=
  method_usual (r := some .none) X H.inst (e_ga _) (e_gn _) (by kernel_rfl) (by kernel_rfl) (ga_encb X H k)
theorem gm_decb (X : Top w hp) (H : Eng hp p e chars big) (k : ∀ t, Q (.ref p.q4, []) ⟨hp, g, d, t, os⟩) : wpAny (model pg w) A (getMethod (.ref e) "_decode_bytes" pl) Q E ⟨hp, g, d, t, os⟩ :=
  method_usual (r := some .none) X H.inst (e_ga _) (e_gn _) (by kernel_rfl) (by kernel_rfl) (ga_decb X H k)
theorem gm_enc64 (X : Top w hp) (H : Eng hp p e chars big) (k : ∀ t, Q (.ref p.q1, []) ⟨hp, g, d, t, os⟩) : wpAny (model pg w) A (getMethod (.ref e) "_encode64" pl) Q E ⟨hp, g, d, t, os⟩ :=
  method_usual (r := some .none) X H.inst (e_ga _) (e_gn _) (by kernel_rfl) (by kernel_rfl) (ga_enc64 X H k)
theorem gm_dec64 (X : Top w hp) (H : Eng hp p e chars big) (k : ∀ t, Q (.ref p.q2, []) ⟨hp, g, d, t, os⟩) : wpAny (model pg w) A (getMethod (.ref e) "_decode64" pl) Q E ⟨hp, g, d, t, os⟩ :=
  method_usual (r := some .none) X H.inst (e_ga _) (e_gn _) (by kernel_rfl) (by kernel_rfl) (ga_dec64 X H k)
theorem gm_fn {name : Str} {f : Addr} (X : Top w hp) (H : Eng hp p e chars big) (hf : findIn (K1 w.params) (.ref 294) name = some (some (.ref f))) (ht : typeIn (K1 w.params) (.ref f) = some (.type "function"))
    (hs : shadowIn (some (engDict p chars big)) name = some false) (k : Q (.ref f, [.ref e]) ⟨hp, g, d, t, os⟩) : wpAny (model pg w) A (getMethod (.ref e) name pl) Q E ⟨hp, g, d, t, os⟩ :=
  method_fn X H.inst (e_ga _) (e_gn _) hf ht hs k
end
end
section
section
variable {w : World} {A : Around} {n : Nat} {E : Value → Shared → Prop} {Q : Value → Shared → Prop} {h : Heap} {g : Array GenState} {d : Drawn} {t : Nat} {os : OsState}
theorem x_iter_bytes {b : Array UInt8} {t1 : Tok} (X : Frag.In (K1 w.params) h) (hk : ∀ h' t' a, Mem h h' [] [(a, ⟨.type "bytes_iterator", none, .fields #[.bytes b t1, .int 0 0], #[]⟩)] → Q (.ref a) ⟨h', g, d, t', os⟩) :
    wpAny (model pg w) AX (call (.builtin "iter") [.bytes b t1]) Q E ⟨h, g, d, t, os⟩ := by x_run
theorem x_nextB {b : Array UInt8} {t1 : Tok} {I : Addr} (X : Frag.In (K1 w.params) h) (hI : h.get? I = some ⟨.type "bytes_iterator", none, .fields #[.bytes b t1, .int 0 0], #[]⟩) (hk : ∀ h' t' a, Keeps h h' → h'.get? a = some (wrapObj "bytes_iterator.__next__" (.ref I)) → h.get? a = none → Q (.ref a) ⟨h', g, d, t', os⟩) :
    wpAny (model pg w) AX (call (.ref 28) [.ref I]) Q E ⟨h, g, d, t, os⟩ := by x_run
theorem x_mapG {I q : Addr} {gi : Nat} {nm qn : Value} (X : Frag.In (K1 w.params) h) (hI : h.get? I = some ⟨.type "generator", none, .fields #[.int gi 0, nm, qn], #[]⟩) (hk : ∀ h' t' z T, Mem h h' [] [(z, ⟨.type "map", none, .fields #[.ref T, .ref q], #[]⟩), (T, ⟨.type "tuple", none, .seq #[.ref I] 0, #[]⟩)] → Q (.ref z) ⟨h', g, d, t', os⟩) :
    wpAny (model pg w) AX (call (.type "map") [.ref q, .ref I]) Q E ⟨h, g, d, t, os⟩ := by x_run
theorem x_mapB {b : Array UInt8} {t1 : Tok} {q : Addr} (X : Frag.In (K1 w.params) h) (hk : ∀ h' t' z T I, Mem h h' [] [(z, ⟨.type "map", none, .fields #[.ref T, .ref q], #[]⟩), (T, ⟨.type "tuple", none, .seq #[.ref I] 0, #[]⟩), (I, ⟨.type "bytes_iterator", none, .fields #[.bytes b t1, .int 0 0], #[]⟩)] → Q (.ref z) ⟨h', g, d, t', os⟩) :
    wpAny (model pg w) AX (call (.type "map") [.ref q, .bytes b t1]) Q E ⟨h, g, d, t, os⟩ := by x_run
theorem x_nextM {I T q : Addr} (X : Frag.In (K1 w.params) h) (hI : h.get? I = some ⟨.type "map", none, .fields #[.ref T, .ref q], #[]⟩) (hk : ∀ h' t' a, Keeps h h' → h'.get? a = some (wrapObj "map.__next__" (.ref I)) → h.get? a = none → Q (.ref a) ⟨h', g, d, t', os⟩) :
    wpAny (model pg w) AX (call (.ref 28) [.ref I]) Q E ⟨h, g, d, t, os⟩ := by x_run
end
end
section
theorem code_gen {w : World} {A : Around} {n : Nat} {R : Result → Shared → Prop} {hp : Heap} {g : Array GenState} {d : Drawn} {t : Nat} {os : OsState} {f : Addr} {fd : FuncData} {body : List Stmt} {vals : List Value} {binds : List (Str × Value)} (hA : AOk A (n + 2)) (X : Top w hp) (FA : FnAt f fd body)
    (hbind : bindArgs fd ⟨vals, []⟩ = pure binds) (hcell : ∀ x ∈ fd.scope.names, x.2 ≠ .cell) (hgen : fd.scope.isGenerator = true) (hloc : ∀ x ∈ binds, fd.scope.names.lookup x.1 = some .local)
    (k : ∀ h' t' I L nm qn, Keeps hp h' → hp.get? I = none → hp.get? L = none → I ≠ L → h'.get? I = some ⟨.type "generator", none, .fields #[.int g.size 0, nm, qn], #[]⟩ → Wk hE L h' h' (fun x => binds.reverse.lookup x) [] →
      R (.ok (.ret (.ref I))) ⟨h', g.push (.fresh (.func body (envX fd.qualname fd.scope L f fd.code []))), d, t', os⟩) :
    codeAny (model pg w) A (.call (.ref f) ⟨vals, []⟩) R ⟨hp, g, d, t, os⟩ := by
  have sn : ∀ h : Heap, h.get? h.objs.size = none := by
    intro h
    cases e : h.get? h.objs.size with
    | none => rfl
    | some o => exact absurd (Heap.lt_size e) (Nat.lt_irrefl _)
  refine codeAny_call_generator hA.room (X f _ (FA.at' w.params)) rfl FA.nco hgen FA.body (codeRec_of X (FA.code w.params)) ?_
  rw [hbind]
  refine wpAny_pure (wpAny_newFunctionEnv hcell hloc (fun h₀ hns hsb => ?_) FA.kind)
  have kp : Keeps hp h₀ := fun b o e => hsb.extBut b o (Nat.ne_of_lt (Heap.lt_size e)) (Heap.get?_push_of_some _ e)
  have hLs : hp.objs.size < h₀.objs.size := by rw [hsb.1, Heap.size_push]; exact Nat.lt_succ_self _
  refine ⟨(noLimit X).fresh _ hsb, ?_⟩
  have := k (h₀.push { cls := .type "generator", data := .fields #[.int g.size 0, .str fd.name (t + binds.length), .str fd.qualname (t + binds.length + 1)] }) (t + binds.length + 1 + 1) h₀.objs.size hp.objs.size _ _
    (fun b o e => Heap.get?_push_of_some _ (kp b o e)) ?_ (sn hp) (Nat.ne_of_gt hLs) (Heap.get?_push_size _ rfl) ⟨⟨hns.push _, fun b o e => absurd (Heap.lt_size e) (Nat.not_lt_zero _), Nat.zero_le _⟩, News.nil, fun _ _ _ e => e⟩
  · rw [← FA.env] at this
    exact this
  · cases e : hp.get? h₀.objs.size with
    | none => rfl
    | some o => exact absurd (Heap.lt_size (kp _ _ e)) (Nat.lt_irrefl _)

section
variable {w : World} {A : Around} {E : Value → Shared → Prop} {Q : Value → Shared → Prop} {s : Shared} {hp : Heap} {g : Array GenState} {d : Drawn} {t : Nat} {os : OsState}
theorem callM {q f : Addr} {self : Value} {pos : Pos} {env : Env} {e : PySem.Expr} {rest : List PySem.Expr} (hf : fnIn (K1 w.params) f = true)
    (k : wpAny (model pg w) A (spliced (backTo pos (starEach (e :: rest) env))) (fun vs s₁ => (s₁.heap.get? q = some (methodObj (.ref f) self) ∧ Top w s₁.heap) ∧ wpAny (model pg w) A (call (.ref q) vs) Q E s₁) E s)
    (he : starEach (e :: rest) env = (false, eval e env) :: starEach rest env) (hplain : (backTo pos (starEach rest env)).any (·.1) = false) :
    wpAny (model pg w) A (callWith pos (.ref q) [] (backTo pos (starEach (e :: rest) env)) []) Q E s :=
  callWith_of (P := fun h => MethP (K1 w.params) q f self h) (by rw [he]; show ((false || (backTo pos (starEach rest env)).any (·.1)) || false) = false; rw [hplain]; rfl) (keeps_M hf) (by rw [he] at k ⊢; exact evalArgs_plain k)
theorem i_divmod {a b : Int} {t1 t2 : Tok} (hb : b ≠ 0) (hb' : b.natAbs < 1073741824) (k : ∀ h' t' T u1 u2, Keeps hp h' → IsPair h' T (.int (a.fdiv b) u1) (.int (a.fmod b) u2) → Q (.ref T) ⟨h', g, d, t', os⟩) :
    wpAny (model pg w) A (call (.builtin "divmod") [.int a t1, .int b t2]) Q E ⟨hp, g, d, t, os⟩ :=
  divmod_int hb (k _ _ _ _ _ (fun b o e => Heap.get?_push_of_some _ e) (Heap.get?_push_size _ rfl)) (Or.inl (PyProof.noPylong_small hb'))
theorem It.weaken {c : Nat} {b : Builtin} {T id : String} {I : Addr} {fp wr : List Addr} {gr : List Nat} {n : Nat} {P P' : Nat → Value → Prop} {St : Nat → Shared → Prop} (W : It w c b T id I fp wr gr n P St) (h : ∀ i v, i < n → P i v → P' i v) : It w c b T id I fp wr gr n P' St :=
  { W with item := fun A hA i s Q E hi hs hQ => W.item A hA i s Q E hi hs fun v s' p => hQ v s' (h i v hi p) }
end
def natsOf (b : Array UInt8) : List Nat := b.toList.map (·.toNat)
theorem natsOf_lt (b : Array UInt8) (j : Nat) : (natsOf b).getD j 0 < 256 := by
  unfold natsOf
  rw [List.getD_eq_getElem?_getD, List.getElem?_map]
  cases b.toList[j]? with
  | none => decide
  | some c => exact c.toNat_lt
theorem It.bytesN {w : World} (I : Addr) (b : Array UInt8) (t : Tok) :
    It w 1 Builtin.«bytes_iterator.__next__» "bytes_iterator" "bytes_iterator.__next__" I [I] [I] [] (natsOf b).length (xsP (natsOf b)) (fun i s => KBw.IsBytesIter s.heap I b t i) :=
  (It.bytes I b t (natsOf b).length (by simp [natsOf])).weaken fun i v hi p => by
    obtain ⟨c, u, hc, rfl⟩ := p
    refine ⟨u, ?_⟩
    unfold natsOf
    rw [List.getD_eq_getElem?_getD, List.getElem?_map, Array.getElem?_toList, hc]
    rfl
def encN (n : Nat) : Nat := 4 * (n / 3) + tl (n % 3)
def encArr (chars : Array UInt8) (big : Bool) (b : Array UInt8) : Array UInt8 := outArr (fun k => (chars.getD ((if big then outB else outL) (natsOf b) k) 0).toNat) (encN b.size)

theorem Wk.h0 {h₀ hz h : Heap} {L a : Addr} {m : Str → Option Value} {news : List (Addr × Obj)} (F : Wk h₀ L hz h m news) (e : h.get? a = none) : h₀.get? a = none := by
  cases q : h₀.get? a with
  | none => rfl
  | some o => rw [F.old _ _ q] at e; cases e
theorem Wk.add {h₀ hz h h' : Heap} {L a : Addr} {m : Str → Option Value} {news : List (Addr × Obj)} {o : Obj} (F : Wk h₀ L hz h m news) (k : Keeps h h') (e : h'.get? a = some o) (n : h.get? a = none) : Wk h₀ L hz h' m ((a, o) :: news) :=
  (F.kept k).new e (Ne.symm (F.neL n)) (F.h0 n)
end
section
theorem eq2 (P : Params) : (K1 P).lookup 2 = some ⟨.none, none, .dict #[] 0, #[]⟩ := ns2 P
section
variable {w : World} {A : Around} {E : Value → Shared → Prop} {Q : Value → Shared → Prop} {hp : Heap} {g : Array GenState} {d : Drawn} {t : Nat} {os : OsState} {p : EngP} {e q it : Addr} {chars b : Array UInt8} {big : Bool} {tb : Tok}
theorem gst_start {I : Addr} {h' : Heap} {nm qn : Value} {fp wr : List Addr} {N : Nat} {P : Nat → Value → Prop} {cd : Code} {t' : Nat} (X : Top w h') (hg : h'.get? I = some ⟨.type "generator", none, .fields #[.int g.size 0, nm, qn], #[]⟩) (hl : ∀ b ∈ wr, ∃ o, h'.get? b = some o)
    (go : ∀ s'' : Shared, Still fp h' s''.heap → Seg (model pg w) (AN 20) (GR wr) (GY N P fp wr) N s'' cd ((model pg w).den cd) [] s'') : GSt w 20 I g.size N P fp wr 0 ⟨h', g.push (.fresh cd), d, t', os⟩ :=
  ⟨Nat.zero_le _, ⟨_, _, _, hg, rfl, rfl, rfl⟩, X 2 _ (eq2 w.params), hl, .fresh cd, h', by show (g.push _)[g.size]? = _; simp, Still.refl, fun s'' hs => ⟨rfl, go s'' hs⟩⟩
def encF (big : Bool) (b : Array UInt8) : Nat → Nat := (if big then outB else outL) (natsOf b)
theorem encgen_ok {t1 t2 : Tok} (hA : AOk A 6) (X : Top w hp) (H : Eng hp p e chars big) (hI : KBw.IsBytesIter hp it b tb 0) (hq : hp.get? q = some (wrapObj "bytes_iterator.__next__" (.ref it))) (hqi : q ≠ it)
    (k : ∀ h' g' t' I L nm qn, (Bare g → Bare g') → Keeps hp h' → hp.get? I = none → hp.get? L = none → I ≠ L → h'.get? I = some ⟨.type "generator", none, .fields #[.int g.size 0, nm, qn], #[]⟩ →
      GSt w 20 I g.size (encN b.size) (oP (encF big b)) [2, I, L, q, it] [L, it] 0 ⟨h', g', d, t', os⟩ → Q (.ref I) ⟨h', g', d, t', os⟩) :
    wpAny (model pg w) A (call (.ref p.q3) [.ref q, .int ((b.size / 3 : Nat) : Int) t1, .int ((b.size % 3 : Nat) : Int) t2]) Q E ⟨hp, g, d, t, os⟩ := by
  obtain ⟨oi, hoi, hci, hdi⟩ := id hI
  have lv : ∀ {h' : Heap} {L : Addr} {m : Str → Option Value}, Keeps hp h' → Wk hE L h' h' m [] → ∀ b ∈ [L, it], ∃ o, h'.get? b = some o := by
    intro h' L m kp F b hb
    rcases List.mem_cons.mp hb with rfl | hb
    · exact F.liveL
    · rcases List.mem_cons.mp hb with rfl | hb
      · exact ⟨oi, kp _ _ hoi⟩
      · cases hb
  have hlen : (natsOf b).length = 3 * (b.size / 3) + b.size % 3 := by
    have : (natsOf b).length = b.size := by simp [natsOf]
    omega
  cases big with
  | false =>
    refine wpAny_call (method_call (show hp.get? p.q3 = some (methodObj (.ref 128) (.ref e)) from H.w3) ?_)
    refine code_gen (n := 2) (binds := [("self", .ref e), ("next_value", .ref q), ("chunks", .int ((b.size / 3 : Nat) : Int) t1), ("tail", .int ((b.size % 3 : Nat) : Int) t2)]) (hA.less (by omega)) X fn128 (by rfl) (by decide) (by rfl) (locs (by rfl)) ?_
    intro h' t' I L nm qn kp nI nL hIL hg F
    have Lit : L ≠ it := fun x => by rw [x, hoi] at nL; cases nL
    have Lq : L ≠ q := fun x => by rw [x, hq] at nL; cases nL
    refine k h' _ t' I L nm qn (fun x => x.push _) kp nI nL hIL hg (gst_start (Frag.In.keeps X kp) hg (lv kp F) fun s'' hs => ?_)
    obtain ⟨h2, g2, d2, t2', os2⟩ := s''
    have F2 : Wk hE L h2 h2 _ [(q, wrapObj "bytes_iterator.__next__" (.ref it))] := (F.new (kp _ _ hq) (Ne.symm Lq) (by rfl)).still hs (by simp) (by simp)
    exact genL_goes (c := 1) (xs := natsOf b) (It.bytesN it b tb) (by omega) (by kernel_rfl) (by decide +kernel) (natsOf_lt b) hlen (by omega) F2
      ⟨⟨t2', ⟨oi, hs it (by simp) _ (kp _ _ hoi), hci, hdi⟩⟩, ⟨t2', Mv.refl⟩⟩ (by simp) (by simp [Lit]) (by simp) (by simp) (by simp) (by simp [hqi]) (by simp) rfl rfl rfl
  | true =>
    refine wpAny_call (method_call (show hp.get? p.q3 = some (methodObj (.ref 135) (.ref e)) from H.w3) ?_)
    refine code_gen (n := 2) (binds := [("self", .ref e), ("next_value", .ref q), ("chunks", .int ((b.size / 3 : Nat) : Int) t1), ("tail", .int ((b.size % 3 : Nat) : Int) t2)]) (hA.less (by omega)) X fn135 (by rfl) (by decide) (by rfl) (locs (by rfl)) ?_
    intro h' t' I L nm qn kp nI nL hIL hg F
    have Lit : L ≠ it := fun x => by rw [x, hoi] at nL; cases nL
    have Lq : L ≠ q := fun x => by rw [x, hq] at nL; cases nL
    refine k h' _ t' I L nm qn (fun x => x.push _) kp nI nL hIL hg (gst_start (Frag.In.keeps X kp) hg (lv kp F) fun s'' hs => ?_)
    obtain ⟨h2, g2, d2, t2', os2⟩ := s''
    have F2 : Wk hE L h2 h2 _ [(q, wrapObj "bytes_iterator.__next__" (.ref it))] := (F.new (kp _ _ hq) (Ne.symm Lq) (by rfl)).still hs (by simp) (by simp)
    exact genB_goes (c := 1) (xs := natsOf b) (It.bytesN it b tb) (by omega) (by kernel_rfl) (by decide +kernel) (natsOf_lt b) hlen (by omega) F2
      ⟨⟨t2', ⟨oi, hs it (by simp) _ (kp _ _ hoi), hci, hdi⟩⟩, ⟨t2', Mv.refl⟩⟩ (by simp) (by simp [Lit]) (by simp) (by simp) (by simp) (by simp [hqi]) (by simp) rfl rfl rfl
end
end
section
section
variable {w : World} {A : Around} {n : Nat} {E : Value → Shared → Prop} {Q : Value → Shared → Prop} {hp : Heap} {g : Array GenState} {d : Drawn} {t : Nat} {os : OsState} {p : EngP} {e : Addr} {chars b : Array UInt8} {big : Bool}
theorem outL_lt (xs : List Nat) (hx : ∀ j, xs.getD j 0 < 256) (k : Nat) : outL xs k < 64 := by
  have h0 := hx (3 * (k / 4)); have h1 := hx (3 * (k / 4) + 1); have h2 := hx (3 * (k / 4) + 2)
  unfold outL
  split <;> omega
theorem outB_lt (xs : List Nat) (hx : ∀ j, xs.getD j 0 < 256) (k : Nat) : outB xs k < 64 := by
  have h0 := hx (3 * (k / 4)); have h1 := hx (3 * (k / 4) + 1); have h2 := hx (3 * (k / 4) + 2)
  unfold outB
  split <;> omega
theorem encF_lt (big : Bool) (b : Array UInt8) (k : Nat) : encF big b k < 64 := by
  cases big
  · exact outL_lt _ (natsOf_lt b) k
  · exact outB_lt _ (natsOf_lt b) k
theorem slot_map_self : Slot "map" "__iter__" "map.__iter__" :=
  .of (owner := "map") (n := "__iter__") (by rw [typeLookup_type, builtinLookup_eq_fast]; kernel_rfl) (by decide +kernel) (by decide +kernel) (by decide +kernel)
    (by first | exact .inl (by decide +kernel) | exact .inr (by decide +kernel)) (by rw [isSubtype_type]; kernel_rfl)
theorem entry_map_self : entryFor table "map.__iter__" = some Builtin.«dict_keyiterator.__iter__» := entryFor_alias (id' := "dict_keyiterator.__iter__") (by kernel_rfl) rfl (by decide +kernel) (by kernel_rfl)
theorem args_map_self (a : Value) : argsOk "map.__iter__" ⟨[a], []⟩ := by unfold argsOk; kernel_rfl
theorem pyIter_map {A : Around} {E : Value → Shared → Prop} {s : Shared} {Q : Value → Shared → Prop} {z T : Addr} {f : Value} (hz : s.heap.get? z = some (mapObj T f)) (hq : Q (.ref z) s) : wpAny (model pg w) A (pyIter (.ref z)) Q E s := by
  have hT : s.TypeIs (.ref z) "map" := ⟨_, hz, rfl⟩
  refine wpAny_pyIter_slot hT slot_map_self (wpAny_call_entry slot_map_self hT entry_map_self ?_ (args_map_self _))
  show wpAny _ _ (ret (.ref z)) _ _ s
  exact wpAny_pure ⟨_, rfl, "map", _, hT, slot_map_next.lookup, hq⟩
theorem enc_ok {gb : BG} {t1 : Tok} (hA : AOk A 34) (X : Top w hp) (H : Eng hp p e chars big) (hb : b.size ≤ 4096)
   (hQ : ∀ h' (g' : BG) t' tk, Keeps hp h' → Q (.bytes (encArr chars big b) tk) ⟨h', g', d, t', os⟩) :
   wpAny (model pg w) A (call (.ref 121) [.ref e, .bytes b t1]) Q E ⟨hp, gb, d, t, os⟩ := by
  obtain ⟨g, bg⟩ := gb
  dsimp only
  refine call_fn' (n := 32) (binds := [("self", .ref e), ("source", .bytes b t1)]) hA X fn121 (by rfl) (by decide) (by rfl) (locs (by rfl)) ?_
  intro h₁ t₁ L F hA'
  refine s_cons ?_
  repeat tb_rel
  refine up hA' (x_isinst_bytes_bytes (F.top X) ?_)
  lcg_off
  repeat tb_rel
  refine Assign_Tuple ?_ (by rfl) (by rfl)
  repeat tb_rel
  refine up hA' (x_len_bytes (F.top X) hb ?_)
  lcg_src
  repeat tb_rel
  refine i_divmod (by decide) (by decide) ?_
  intro h _ T u1 u2 k hT
  replace F := F.kept k
  clear k
  rw [show (3 : Int) = ((3 : Nat) : Int) from rfl, fdiv_nat, show ((b.size : Nat) : Int).fmod ((3 : Nat) : Int) = ((b.size % 3 : Nat) : Int) by rw [Int.fmod_eq_emod_of_nonneg _ (by omega)]; rfl] at hT
  refine asg2 hA'.hd F hT (fun h _ F => ?_) rfl rfl rfl rfl
  repeat tb_rel
  refine up hA' (x_iter_bytes (F.top X) ?_)
  intro h _ it D
  have nI := D.nw _ (List.mem_cons_self ..)
  dsimp only at nI
  replace F := F.add (keeps_of_mem D) nI.1 nI.2
  clear D
  repeat tb_rel
  refine up hA' (x_nextB (F.top X) (F.get (List.mem_cons_self ..)) ?_)
  intro h' _ q k hq nq
  have hqi : q ≠ it := fun x => by rw [x, F.get (List.mem_cons_self ..)] at nq; cases nq
  replace F := F.add k hq nq
  clear k nq hq nI
  repeat tb_rel
  refine MethodCall_ ?_ (by rfl)
  repeat tb_rel
  refine gm_encb (F.top X) (H.keep F.old) ?_
  intro _
  refine callM (f := if big then 135 else 128) (self := .ref e) (by cases big <;> kernel_rfl) ?_ rfl rfl
  repeat tb_rel
  refine And.intro ⟨by have := (H.keep F.old).w3; cases big <;> exact this, F.top X⟩ ?_
  have nI := F.get (a := it) (o := ⟨.type "bytes_iterator", none, .fields #[.bytes b t1, .int 0 0], #[]⟩) (by simp)
  have hq := F.get (a := q) (o := wrapObj "bytes_iterator.__next__" (.ref it)) (by simp)
  refine encgen_ok (hA'.less (by omega)) (F.top X) (H.keep F.old) (it := it) (q := q) (tb := t1) ⟨_, nI, rfl, rfl⟩ hq hqi ?_
  clear nI hq
  intro h gg tg I Lg nm qn bgg k nI nLg hIL hI st
  have LI := F.neL nI
  have LL := F.neL nLg
  have hw1 := (H.keep F.old).w1
  have q1g : Lg ≠ p.q1 := fun x => by rw [x, hw1] at nLg; cases nLg
  have itq : it ≠ p.q1 := fun x => by
    have := (F.N (it, _) (List.mem_cons_of_mem _ (List.mem_cons_self ..))).2.2
    rw [x, H.w1] at this; cases this
  have Lit : it ≠ L := (F.N (it, _) (List.mem_cons_of_mem _ (List.mem_cons_self ..))).2.1
  have Lq : q ≠ L := (F.N (q, _) (List.mem_cons_self ..)).2.1
  have L2 : 2 ≠ L := F.ne (X 2 _ (eq2 w.params))
  have hLg0 := F.h0 nLg
  have g2 : (2 : Addr) ≠ Lg := fun x => by have := X 2 _ (eq2 w.params); rw [x, hLg0] at this; cases this
  have Iit : I ≠ it := fun x => by
    have := (F.N (it, _) (List.mem_cons_of_mem _ (List.mem_cons_self ..))).1
    rw [← x, nI] at this; cases this
  have hit0 := (F.N (it, _) (List.mem_cons_of_mem _ (List.mem_cons_self ..))).2.2
  replace F := (F.add k hI nI).mark
  clear k
  repeat tb_rel
  refine ga_enc64 (F.top X) (H.keep F.old) ?_
  intro _
  repeat tb_rel
  refine up hA' (x_mapG (F.top X) (F.get (List.mem_cons_self ..)) ?_)
  intro h2 t2 z T D
  have nz := D.nw _ (List.mem_cons_self ..)
  have nT := D.nw _ (List.mem_cons_of_mem _ (List.mem_cons_self ..))
  dsimp only at nz nT
  have i2 : (2 : Addr) ≠ it := fun x => by have := X 2 _ (eq2 w.params); rw [x, hit0] at this; cases this
  have W0 := It.gen (w := w) (c := 20) (by omega) (I := I) (g := g.size) (N := encN b.size) (P := oP (encF big b)) (fp := [2, I, Lg, q, it]) (wr := [Lg, it]) (by simp) (by simp) (by simp) (by simp [g2, i2]) (by simp [hIL, Iit])
  have Lz := F.neL nz.2
  have z0 := F.h0 nz.2
  have inf : ∀ b ∈ [2, I, Lg, q, it], b ≠ L := by
    intro b hb
    simp only [List.mem_cons, List.not_mem_nil, or_false] at hb
    rcases hb with rfl | rfl | rfl | rfl | rfl
    · exact L2
    · exact Ne.symm LI
    · exact Ne.symm LL
    · exact Lq
    · exact Lit
  have st1 := W0.frame 0 ⟨h, gg, d, tg, os⟩ ⟨_, gg, d, t2, os⟩ st (fun b hb o e => F.Z b o (inf b hb) e) (fun _ _ => rfl)
  have zw : z ∉ [Lg, it] := fun x => by obtain ⟨o, e⟩ := st1.live z x; rw [nz.2] at e; cases e
  have tw : T ∉ [Lg, it] := fun x => by obtain ⟨o, e⟩ := st1.live T x; rw [nT.2] at e; cases e
  have hfc : ∀ A, AOk A 5 → ∀ i v (s : Shared) (Q : Value → Shared → Prop) E, i < encN b.size → oP (encF big b) i v → s.heap.get? p.q1 = some (wrapObj "bytes.__getitem__" (.bytes chars p.tc)) → (∀ v' s', oP (fun k => (chars.getD (encF big b k) 0).toNat) i v' → Mv [] [] s s' → Q v' s') → wpAny (model pg w) A (call (.ref p.q1) [v]) Q E s := by
    rintro A hA i v s Q E hi ⟨u, rfl⟩ hf hQ
    refine call_bget hf ?_ (by rw [H.size]; decide) fun u t => hQ _ _ ⟨u, rfl⟩ (Mv.refl.tok t)
    rw [H.size]; exact encF_lt big b i
  have W := It.map (z := z) (TI := T) (f := .ref p.q1) (fpf := [p.q1]) (c2 := 5) (Hf := fun h => h.get? p.q1 = some (wrapObj "bytes.__getitem__" (.bytes chars p.tc))) (P' := oP (fun k => (chars.getD (encF big b k) 0).toNat)) W0
    (fun h h' a k => k _ (by simp) _ a) (by simp [q1g, itq]) zw tw hfc (by omega)
  replace F := F.add (keeps_of_mem D) nT.1 nT.2
  replace F := F.new nz.1 (Ne.symm Lz) z0
  have hI2 := F.get (a := I) (o := ⟨.type "generator", none, .fields #[.int g.size 0, nm, qn], #[]⟩) (by simp)
  have hq2 := F.get (a := q) (o := wrapObj "bytes_iterator.__next__" (.ref it)) (by simp)
  have hi2 := F.get (a := it) (o := ⟨.type "bytes_iterator", none, .fields #[.bytes b t1, .int 0 0], #[]⟩) (by simp)
  have hx2 := F.top X 2 _ (eq2 w.params)
  have hw2 := (H.keep F.old).w1
  have st2 := W0.frame 0 ⟨h, gg, d, tg, os⟩ ⟨h2, gg, d, t2, os⟩ st (fun b hb o e => F.Z b o (inf b hb) e) (fun _ _ => rfl)
  repeat tb_rel
  refine bytes_of plain_map (fun A E s Q st hq => pyIter_map st.1 hq) (fun o e => ?_) W (hA'.less (by omega)) (fun i hi => UInt8.toNat_lt _) ?_ ⟨nz.1, nT.1, st2, hw2⟩ ?_ ?_
  · rw [show (⟨h2, gg, d, t2, os⟩ : Shared).heap.get? z = _ from nz.1] at e; cases e; exact ⟨_, rfl⟩
  · unfold encN tl; split <;> omega
  · intro b hb
    simp only [List.cons_append, List.nil_append, List.mem_cons, List.not_mem_nil, or_false] at hb
    rcases hb with rfl | rfl | rfl | rfl | rfl | rfl | rfl | rfl
    · exact ⟨_, nz.1⟩
    · exact ⟨_, nT.1⟩
    · exact ⟨_, hx2⟩
    · exact ⟨_, hI2⟩
    · exact st2.live _ (by simp)
    · exact ⟨_, hq2⟩
    · exact ⟨_, hi2⟩
    · exact ⟨_, hw2⟩
  · intro s' tk mv
    obtain ⟨h3, g3, d3, t3, os3⟩ := s'
    obtain rfl : d3 = d := mv.drawn
    obtain rfl : os3 = os := mv.os
    replace F := Wk.mv (s := ⟨h2, gg, _, t2, _⟩) (s' := ⟨h3, g3, _, t3, _⟩) F.drop.mark mv (by simp [LL, Ne.symm Lit]) (by
      intro a ha o e
      simp only [List.mem_cons, List.not_mem_nil, or_false] at ha
      rcases ha with rfl | rfl
      · rw [hLg0] at e; cases e
      · rw [hit0] at e; cases e) (by simp)
    repeat tb_rel
    have := hQ _ ⟨g3, mv.bare (bgg bg)⟩ ?_ ?_ F.old
    · exact this
end
end
section
/-- the places of a word's letters in the table -/
def decN (n : Nat) : Nat := 3 * (n / 4) + tld (n % 4)
def decF (big : Bool) (vs : List Nat) : Nat → Nat := (if big then decB else decL) vs
/-- b is written with the letters of chars at the places vs -/
def Spells (chars b : Array UInt8) (vs : List Nat) : Prop := vs.length = b.size ∧ ∀ j, j < b.size → vs.getD j 0 < 64 ∧ b[j]? = some (chars.getD (vs.getD j 0) 0)
section
variable {w : World} {A : Around} {E : Value → Shared → Prop} {Q : Value → Shared → Prop} {hp : Heap} {g : Array GenState} {d : Drawn} {t : Nat} {os : OsState} {p : EngP} {e q it z T : Addr} {chars b : Array UInt8} {big : Bool} {tb : Tok} {vs : List Nat}
theorem spells_lt (S : Spells chars b vs) (j : Nat) : vs.getD j 0 < 64 := by
  rcases Nat.lt_or_ge j b.size with h | h
  · exact (S.2 j h).1
  · rw [getD_out vs j (by rw [S.1]; exact h)]; decide
/-- a map of the decoding table over bytes -/
theorem It.decMap (zi : z ≠ it) (ti : T ≠ it) (qi : p.q2 ≠ it) (di : p.dd ≠ it) (S : Spells chars b vs) (hs : chars.size = 64) :
    It w 5 Builtin.«map.__next__» "map" "map.__next__" z ([z, T] ++ [it] ++ [p.q2, p.dd]) [it] [] vs.length (xsP vs)
      (fun i s => s.heap.get? z = some (mapObj T (.ref p.q2)) ∧ s.heap.get? T = some (tup1 it) ∧ KBw.IsBytesIter s.heap it b tb i ∧ (s.heap.get? p.q2 = some (bmObj "dict.__getitem__" (.ref p.dd)) ∧ ∃ F, s.heap.IntMap p.dd F ∧ ∀ i < chars.size, ∃ u, F ((chars.getD i 0).toNat : Int) = some (.int (i : Int) u))) := by
  have W0 : It w 4 Builtin.«bytes_iterator.__next__» "bytes_iterator" "bytes_iterator.__next__" it [it] [it] [] vs.length (fun i v => ∃ c u, b[i]? = some c ∧ v = .int (c.toNat : Int) u) (fun i s => KBw.IsBytesIter s.heap it b tb i) :=
    let W := It.bytes (w := w) it b tb vs.length S.1.symm
    { W with item := fun A hA => W.item A (hA.less (by omega)), done := fun A hA => W.done A (hA.less (by omega)) }
  exact It.map (Hf := fun h => h.get? p.q2 = some (bmObj "dict.__getitem__" (.ref p.dd)) ∧ ∃ F, h.IntMap p.dd F ∧ ∀ i < chars.size, ∃ u, F ((chars.getD i 0).toNat : Int) = some (.int (i : Int) u)) (c2 := 5) W0
    (fun h h' a k => ⟨k _ (by simp) _ a.1, let ⟨F, ⟨o, es, ep, ho, r⟩, q⟩ := a.2; ⟨F, ⟨o, es, ep, k _ (by simp) _ ho, r⟩, q⟩⟩) (by simp [Ne.symm qi, Ne.symm di]) (by simp [zi]) (by simp [ti]) (fun A hA i v s Q E hi hv hf hQ => by
      obtain ⟨c, u, hc, rfl⟩ := hv
      obtain ⟨hf, F, hm, hF⟩ := hf
      obtain ⟨l, hb⟩ := S.2 i (by rw [← S.1]; exact hi)
      rw [hc] at hb
      obtain ⟨u', hu⟩ := hF (vs.getD i 0) (by rw [hs]; exact l)
      refine call_dget hf hm (v := .int ((vs.getD i 0 : Nat) : Int) u') (by rw [Option.some.inj hb]; exact hu) fun t => hQ _ _ ⟨u', rfl⟩ (Mv.refl.tok t)) (by omega)
theorem decgen_ok {t1 t2 : Tok} (hA : AOk A 6) (X : Top w hp) (H : Eng hp p e chars big) (S : Spells chars b vs) (h1 : b.size % 4 ≠ 1)
    (hz : hp.get? z = some (mapObj T (.ref p.q2))) (hT : hp.get? T = some (tup1 it)) (hI : KBw.IsBytesIter hp it b tb 0) (hq : hp.get? q = some (wrapObj "map.__next__" (.ref z))) (qi : q ≠ it) (q2i : p.q2 ≠ it) (ddi : p.dd ≠ it) (zi : z ≠ it) (ti : T ≠ it)
    (k : ∀ h' g' t' I L nm qn, (Bare g → Bare g') → Keeps hp h' → hp.get? I = none → hp.get? L = none → I ≠ L → h'.get? I = some ⟨.type "generator", none, .fields #[.int g.size 0, nm, qn], #[]⟩ →
      GSt w 20 I g.size (decN b.size) (oP (decF big vs)) [2, I, L, q, z, T, it, p.q2, p.dd] [L, it] 0 ⟨h', g', d, t', os⟩ → Q (.ref I) ⟨h', g', d, t', os⟩) :
    wpAny (model pg w) A (call (.ref p.q4) [.ref q, .int ((b.size / 4 : Nat) : Int) t1, .int ((b.size % 4 : Nat) : Int) t2]) Q E ⟨hp, g, d, t, os⟩ := by
  obtain ⟨oi, hoi, hci, hdi⟩ := id hI
  obtain ⟨Fm, hFm, hFc⟩ := H.map
  obtain ⟨od, es, ep, hod, hdr⟩ := id hFm
  have lv : ∀ {h' : Heap} {L : Addr} {m : Str → Option Value}, Keeps hp h' → Wk hE L h' h' m [] → ∀ b ∈ [L, it], ∃ o, h'.get? b = some o := by
    intro h' L m kp F b hb
    rcases List.mem_cons.mp hb with rfl | hb
    · exact F.liveL
    · rcases List.mem_cons.mp hb with rfl | hb
      · exact ⟨oi, kp _ _ hoi⟩
      · cases hb
  have hlen : vs.length = 4 * (b.size / 4) + b.size % 4 := by rw [S.1]; omega
  have ne : ∀ {L a : Addr} {o : Obj}, hp.get? L = none → hp.get? a = some o → L ≠ a := fun n e x => by rw [x, e] at n; cases n
  cases big with
  | false =>
    refine wpAny_call (method_call (show hp.get? p.q4 = some (methodObj (.ref 149) (.ref e)) from H.w4) ?_)
    refine code_gen (n := 2) (binds := [("self", .ref e), ("next_value", .ref q), ("chunks", .int ((b.size / 4 : Nat) : Int) t1), ("tail", .int ((b.size % 4 : Nat) : Int) t2)]) (hA.less (by omega)) X fn149 (by rfl) (by decide) (by rfl) (locs (by rfl)) ?_
    intro h' t' I L nm qn kp nI nL hIL hg F
    have Lit := ne nL hoi; have Lq := ne nL hq; have Lz := ne nL hz; have LT := ne nL hT; have L2 := ne nL H.w2; have Ld := ne nL hod
    refine k h' _ t' I L nm qn (fun x => x.push _) kp nI nL hIL hg (gst_start (Frag.In.keeps X kp) hg (lv kp F) fun s'' hs => ?_)
    obtain ⟨h2, g2, d2, t2', os2⟩ := s''
    have F2 : Wk hE L h2 h2 _ [(q, wrapObj "map.__next__" (.ref z))] := (F.new (kp _ _ hq) (Ne.symm Lq) (by rfl)).still hs (by simp) (by simp)
    exact genDL_goes (c := 5) (xs := vs) (It.decMap (tb := tb) zi ti q2i ddi S H.size) (by omega) (by kernel_rfl) (by decide +kernel) (spells_lt S) hlen (by omega) F2
      ⟨⟨t2', hs z (by simp) _ (kp _ _ hz), hs T (by simp) _ (kp _ _ hT), ⟨oi, hs it (by simp) _ (kp _ _ hoi), hci, hdi⟩, hs p.q2 (by simp) _ (kp _ _ H.w2), Fm, ⟨od, es, ep, hs p.dd (by simp) _ (kp _ _ hod), hdr⟩, hFc⟩, ⟨t2', Mv.refl⟩⟩
      (by simp) (by simp [Lz, LT, Lit, L2, Ld]) (by simp) (by simp) (by simp) (by simp [qi]) (by simp) rfl rfl rfl
  | true =>
    refine wpAny_call (method_call (show hp.get? p.q4 = some (methodObj (.ref 156) (.ref e)) from H.w4) ?_)
    refine code_gen (n := 2) (binds := [("self", .ref e), ("next_value", .ref q), ("chunks", .int ((b.size / 4 : Nat) : Int) t1), ("tail", .int ((b.size % 4 : Nat) : Int) t2)]) (hA.less (by omega)) X fn156 (by rfl) (by decide) (by rfl) (locs (by rfl)) ?_
    intro h' t' I L nm qn kp nI nL hIL hg F
    have Lit := ne nL hoi; have Lq := ne nL hq; have Lz := ne nL hz; have LT := ne nL hT; have L2 := ne nL H.w2; have Ld := ne nL hod
    refine k h' _ t' I L nm qn (fun x => x.push _) kp nI nL hIL hg (gst_start (Frag.In.keeps X kp) hg (lv kp F) fun s'' hs => ?_)
    obtain ⟨h2, g2, d2, t2', os2⟩ := s''
    have F2 : Wk hE L h2 h2 _ [(q, wrapObj "map.__next__" (.ref z))] := (F.new (kp _ _ hq) (Ne.symm Lq) (by rfl)).still hs (by simp) (by simp)
    exact genDB_goes (c := 5) (xs := vs) (It.decMap (tb := tb) zi ti q2i ddi S H.size) (by omega) (by kernel_rfl) (by decide +kernel) (spells_lt S) hlen (by omega) F2
      ⟨⟨t2', hs z (by simp) _ (kp _ _ hz), hs T (by simp) _ (kp _ _ hT), ⟨oi, hs it (by simp) _ (kp _ _ hoi), hci, hdi⟩, hs p.q2 (by simp) _ (kp _ _ H.w2), Fm, ⟨od, es, ep, hs p.dd (by simp) _ (kp _ _ hod), hdr⟩, hFc⟩, ⟨t2', Mv.refl⟩⟩
      (by simp) (by simp [Lz, LT, Lit, L2, Ld]) (by simp) (by simp) (by simp) (by simp [qi]) (by simp) rfl rfl rfl
end
end
section
section
variable {w : World} {A : Around} {E : Value → Shared → Prop} {env : Env} {s : Shared}
def TryQ (M : Model) (A : Around) (E : Value → Shared → Prop) (env : Env) (orelse : List Stmt) (Q : Flow → Shared → Prop) : Flow → Shared → Prop := fun f s => match f with
  | .next => wpAny M A (execs orelse env) Q E s
  | f => Q f s
theorem s_try {body orelse : List Stmt} {h₀ : ExceptHandler} {hs : List ExceptHandler} {pos : Pos} {Q : Flow → Shared → Prop} (h : wpAny (model pg w) A (execs body env) (TryQ (model pg w) A E env orelse Q) (fun _ _ => False) s) :
    wpAny (model pg w) A (exec (.Try body (h₀ :: hs) orelse [] pos) env) Q E s := wpAny_Try_except (wpAny_mono h (fun f s q => by cases f <;> exact q) fun _ _ x => x.elim)
theorem try_ret {M : Model} {orelse : List Stmt} {Q : Flow → Shared → Prop} {v : Value} (h : Q (.ret v) s) : TryQ M A E env orelse Q (.ret v) s := h
theorem try_next {M : Model} {orelse : List Stmt} {Q : Flow → Shared → Prop} (h : wpAny M A (execs orelse env) Q E s) : TryQ M A E env orelse Q .next s := h
end
section
variable {w : World} {A : Around} {n : Nat} {E : Value → Shared → Prop} {Q : Value → Shared → Prop} {hp : Heap} {g : Array GenState} {d : Drawn} {t : Nat} {os : OsState} {p : EngP} {e : Addr} {chars b : Array UInt8} {big : Bool} {vs : List Nat}
theorem pyIter_gen {A : Around} {E : Value → Shared → Prop} {s : Shared} {Q : Value → Shared → Prop} {c : Nat} {I : Addr} {g N : Nat} {P : Nat → Value → Prop} {fp wr : List Addr} {i : Nat} (st : GSt w c I g N P fp wr i s) (hq : Q (.ref I) s) : wpAny (model pg w) A (pyIter (.ref I)) Q E s := wpAny_pyIter_gen st.gen hq
def decArr (big : Bool) (vs : List Nat) (n : Nat) : Array UInt8 := outArr (decF big vs) (decN n)
theorem dec_ok {gb : BG} {t1 : Tok} (hA : AOk A 34) (X : Top w hp) (H : Eng hp p e chars big) (hb : b.size ≤ 4096) (S : Spells chars b vs) (h1 : b.size % 4 ≠ 1) (hlt : ∀ i < decN b.size, decF big vs i < 256)
   (hQ : ∀ h' (g' : BG) t' tk, Keeps hp h' → Q (.bytes (decArr big vs b.size) tk) ⟨h', g', d, t', os⟩) :
   wpAny (model pg w) A (call (.ref 142) [.ref e, .bytes b t1]) Q E ⟨hp, gb, d, t, os⟩ := by
  obtain ⟨g, bg⟩ := gb
  dsimp only
  refine call_fn' (n := 32) (binds := [("self", .ref e), ("source", .bytes b t1)]) hA X fn142 (by rfl) (by decide) (by rfl) (locs (by rfl)) ?_
  intro h₁ t₁ L F hA'
  refine s_cons ?_
  repeat tb_rel
  refine up hA' (x_isinst_bytes_bytes (F.top X) ?_)
  lcg_off
  repeat tb_rel
  refine Assign_Tuple ?_ (by rfl) (by rfl)
  repeat tb_rel
  refine up hA' (x_len_bytes (F.top X) hb ?_)
  lcg_src
  repeat tb_rel
  refine i_divmod (by decide) (by decide) ?_
  intro h _ T u1 u2 k hT
  replace F := F.kept k
  clear k
  rw [show (4 : Int) = ((4 : Nat) : Int) from rfl, fdiv_nat, show ((b.size : Nat) : Int).fmod ((4 : Nat) : Int) = ((b.size % 4 : Nat) : Int) by rw [Int.fmod_eq_emod_of_nonneg _ (by omega)]; rfl] at hT
  refine asg2 hA'.hd F hT (fun h _ F => ?_) rfl rfl rfl rfl
  repeat tb_rel
  refine br_is false (by rw [beq_eq_false_iff_ne]; omega) ?_
  repeat tb_rel
  refine ga_dec64 (F.top X) (H.keep F.old) ?_
  intro _
  repeat tb_rel
  refine up hA' (x_mapB (F.top X) ?_)
  intro h _ z T it D
  have nz := D.nw _ (List.mem_cons_self ..)
  have nT := D.nw _ (List.mem_cons_of_mem _ (List.mem_cons_self ..))
  have ni := D.nw _ (List.mem_cons_of_mem _ (List.mem_cons_of_mem _ (List.mem_cons_self ..)))
  have ord := D.ord
  simp only [List.map_cons, List.map_nil, List.pairwise_cons, List.mem_cons, List.not_mem_nil, or_false, forall_eq_or_imp, forall_eq, gt_iff_lt] at ord
  obtain ⟨⟨p1, p2⟩, p3, -⟩ := ord
  have zi : z ≠ it := Nat.ne_of_gt p2
  have ti : T ≠ it := Nat.ne_of_gt p3
  clear p1 p2 p3
  dsimp only at nz nT ni
  have q2i : p.q2 ≠ it := fun x => by have := (H.keep F.old).w2; rw [x, ni.2] at this; cases this
  have ddi : p.dd ≠ it := fun x => by obtain ⟨_, ⟨o, _, _, ho, _⟩, _⟩ := (H.keep F.old).map; rw [x, ni.2] at ho; cases ho
  have Lz := F.neL nz.2
  have z0 := F.h0 nz.2
  have LT := F.neL nT.2
  have T0 := F.h0 nT.2
  replace F := ((F.add (keeps_of_mem D) ni.1 ni.2).new nT.1 (Ne.symm LT) T0).new nz.1 (Ne.symm Lz) z0
  clear D
  repeat tb_rel
  refine up hA' (x_nextM (F.top X) (F.get (List.mem_cons_self ..)) ?_)
  intro h' _ q k hq nq
  have qi : q ≠ it := fun x => by
    have := F.get (a := it) (o := ⟨.type "bytes_iterator", none, .fields #[.bytes b t1, .int 0 0], #[]⟩) (by simp)
    rw [x, this] at nq; cases nq
  replace F := F.add k hq nq
  clear k nq hq
  repeat tb_rel
  refine s_try ?_
  repeat tb_rel
  refine MethodCall_ ?_ (by rfl)
  repeat tb_rel
  refine gm_decb (F.top X) (H.keep F.old) ?_
  intro _
  refine callM (f := if big then 156 else 149) (self := .ref e) (by cases big <;> kernel_rfl) ?_ rfl rfl
  repeat tb_rel
  refine And.intro ⟨by have := (H.keep F.old).w4; cases big <;> exact this, F.top X⟩ ?_
  have hz1 := F.get (a := z) (o := mapObj T (.ref p.q2)) (by simp [mapObj])
  have hT1 := F.get (a := T) (o := tup1 it) (by simp [tup1])
  have hi1 := F.get (a := it) (o := ⟨.type "bytes_iterator", none, .fields #[.bytes b t1, .int 0 0], #[]⟩) (by simp)
  have hq1 := F.get (a := q) (o := wrapObj "map.__next__" (.ref z)) (by simp)
  refine decgen_ok (hA'.less (by omega)) (F.top X) (H.keep F.old) S h1 (it := it) (q := q) (z := z) (T := T) (tb := t1) hz1 hT1 ⟨_, hi1, rfl, rfl⟩ hq1 qi q2i ddi zi ti ?_
  intro h gg tg I Lg nm qn bgg k nI nLg hIL hI st
  have LI := F.neL nI
  have LL := F.neL nLg
  have hLg0 := F.h0 nLg
  have hw2 := (H.keep F.old).w2
  have Lit : it ≠ L := (F.N (it, ⟨.type "bytes_iterator", none, .fields #[.bytes b t1, .int 0 0], #[]⟩) (by simp)).2.1
  have hit0 := (F.N (it, ⟨.type "bytes_iterator", none, .fields #[.bytes b t1, .int 0 0], #[]⟩) (by simp)).2.2
  have g2 : (2 : Addr) ≠ Lg := fun x => by have := X 2 _ (eq2 w.params); rw [x, hLg0] at this; cases this
  have Iit : I ≠ it := fun x => by rw [x, hi1] at nI; cases nI
  have i2 : (2 : Addr) ≠ it := fun x => by have := X 2 _ (eq2 w.params); rw [x, hit0] at this; cases this
  clear hz1 hT1 hi1 hq1
  have W0 := It.gen (w := w) (c := 20) (by omega) (I := I) (g := g.size) (N := decN b.size) (P := oP (decF big vs)) (fp := [2, I, Lg, q, z, T, it, p.q2, p.dd]) (wr := [Lg, it]) (by simp) (by simp) (by simp) (by simp [g2, i2]) (by simp [hIL, Iit])
  have F1 := F.add k hI nI
  repeat tb_rel
  refine bytes_of plain_gen (fun A E s Q st hq => pyIter_gen st hq) (fun o e => ?_) W0 (hA'.less (by omega)) hlt ?_ st ?_ ?_
  · rw [show (⟨h, gg, d, tg, os⟩ : Shared).heap.get? I = _ from hI] at e; cases e; exact ⟨_, rfl⟩
  · unfold decN tld; omega
  · intro b' hb'
    simp only [List.mem_cons, List.not_mem_nil, or_false] at hb'
    rcases hb' with rfl | rfl | rfl | rfl | rfl | rfl | rfl | rfl | rfl
    · exact ⟨_, F1.top X 2 _ (eq2 w.params)⟩
    · exact ⟨_, hI⟩
    · exact st.live _ (by simp)
    · exact ⟨_, F1.get (o := wrapObj "map.__next__" (.ref z)) (by simp)⟩
    · exact ⟨_, F1.get (o := mapObj T (.ref p.q2)) (by simp [mapObj])⟩
    · exact ⟨_, F1.get (o := tup1 it) (by simp [tup1])⟩
    · exact st.live _ (by simp)
    · exact ⟨_, (H.keep F1.old).w2⟩
    · obtain ⟨_, ⟨o, _, _, ho, _⟩, _⟩ := (H.keep F1.old).map; exact ⟨o, ho⟩
  · intro s' tk mv
    obtain ⟨h3, g3, d3, t3, os3⟩ := s'
    obtain rfl : d3 = d := mv.drawn
    obtain rfl : os3 = os := mv.os
    replace F := Wk.mv (s := ⟨h, gg, _, tg, _⟩) (s' := ⟨h3, g3, _, t3, _⟩) F1.drop.mark mv (by simp [LL, Ne.symm Lit]) (by
      intro a ha o e
      simp only [List.mem_cons, List.not_mem_nil, or_false] at ha
      rcases ha with rfl | rfl
      · rw [hLg0] at e; cases e
      · rw [hit0] at e; cases e) (by simp)
    repeat tb_rel
    refine try_ret ?_
    repeat tb_rel
    exact hQ _ ⟨g3, mv.bare (bgg bg)⟩ _ _ F.old
end
end
section
section
variable {w : World} {A : Around} {M : Model} {E : Value → Shared → Prop} {Q : Value → Shared → Prop} {hp : Heap} {g : Array GenState} {d : Drawn} {t : Nat} {os : OsState} {env : Env} {s : Shared} {t1 t2 : Tok} {a : Nat} {u v : Tok}
theorem n_shl12 (ha : a < 1000000) (k : ∀ x y, Q (.int ((a * 4096 : Nat) : Int) x) ⟨hp, g, d, y, os⟩) : wpAny (model pg w) A (binaryOp .LShift (.int (a : Int) u) (.int 12 v)) Q E ⟨hp, g, d, t, os⟩ := by
  refine i_shl (by decide) (by decide) (by omega) fun x y => ?_
  have := k x y; rwa [Int.natCast_mul] at this
theorem n_shl18 (ha : a < 1000000) (k : ∀ x y, Q (.int ((a * 262144 : Nat) : Int) x) ⟨hp, g, d, y, os⟩) : wpAny (model pg w) A (binaryOp .LShift (.int (a : Int) u) (.int 18 v)) Q E ⟨hp, g, d, t, os⟩ := by
  refine i_shl (by decide) (by decide) (by omega) fun x y => ?_
  have := k x y; rwa [Int.natCast_mul] at this
theorem n_add {b : Nat} (k : ∀ x y, Q (.int ((a + b : Nat) : Int) x) ⟨hp, g, d, y, os⟩) : wpAny (model pg w) A (binaryOp .Add (.int (a : Int) u) (.int (b : Int) v)) Q E ⟨hp, g, d, t, os⟩ := i_add fun x y => k x y
theorem tl_bi {value slice : PySem.Expr} {b : Array UInt8} {i : Int} (h0 : 0 ≤ i) (h1 : i.toNat < b.size) (hz : b.size ≤ 1000000) (k : ∀ x y, Q (.int (((b.getD i.toNat 0).toNat : Nat) : Int) x) ⟨hp, g, d, y, os⟩)
    (hs : subscripted slice false (.bytes b t1) (.int i t2) = operate [.bytes b t1, .int i t2] (getItem (.bytes b t1) (.int i t2))) (ht : ∀ r, letTemporaryGo value (.bytes b t1) r = pure ()) :
    wpAny (model pg w) A (subscriptTail value slice (.bytes b t1) (.int i t2)) Q E ⟨hp, g, d, t, os⟩ := by
  obtain ⟨l⟩ := b
  refine KBy.item_N (x := l) (by simp at hz; omega) h0 (by simp at h1; omega) ?_ hs ht
  have := k t (t + 1)
  simp only [Array.getD, List.size_toArray] at this h1
  rw [dif_pos h1] at this
  rw [List.getD_eq_getElem?_getD, List.getElem?_eq_getElem h1]
  exact this
theorem callW {q : Addr} {id : String} {self : Value} {pos : Pos} {e : PySem.Expr} {rest : List PySem.Expr}
    (k : wpAny (model pg w) A (spliced (backTo pos (starEach (e :: rest) env))) (fun vs s₁ => s₁.heap.get? q = some (wrapObj id self) ∧ wpAny (model pg w) A (call (.ref q) vs) Q E s₁) E s)
    (he : starEach (e :: rest) env = (false, eval e env) :: starEach rest env) (hplain : (backTo pos (starEach rest env)).any (·.1) = false) :
    wpAny (model pg w) A (callWith pos (.ref q) [] (backTo pos (starEach (e :: rest) env)) []) Q E s := callWith_wrap k he hplain
variable {p : EngP} {e : Addr} {chars b : Array UInt8} {big : Bool} {vs : List Nat}
theorem dec1 {i : Nat} (H : Eng hp p e chars big) (S : Spells chars b vs) (hi : i < b.size) (k : ∀ x y, Q (.int ((vs.getD i 0 : Nat) : Int) x) ⟨hp, g, d, y, os⟩) :
    wpAny (model pg w) A (call (.ref p.q2) [.int (((b.getD i 0).toNat : Nat) : Int) u]) Q E ⟨hp, g, d, t, os⟩ := by
  obtain ⟨F, hm, hF⟩ := H.map
  obtain ⟨l, hb⟩ := S.2 i hi
  obtain ⟨u', hu⟩ := hF (vs.getD i 0) (by rw [H.size]; exact l)
  have : b.getD i 0 = chars.getD (vs.getD i 0) 0 := by
    simp only [Array.getD, hi, dif_pos] at hb ⊢
    rw [Array.getElem?_eq_getElem hi] at hb
    exact Option.some.inj hb
  rw [this]
  exact call_dget H.w2 hm hu fun t => k _ _
end
section
variable {w : World} {A : Around} {n : Nat} {E : Value → Shared → Prop} {Q : Value → Shared → Prop} {hp : Heap} {g : Array GenState} {d : Drawn} {t : Nat} {os : OsState} {p : EngP} {e : Addr} {chars b : Array UInt8} {big : Bool} {vs : List Nat}
def num4 (big : Bool) (vs : List Nat) : Nat := if big then vs.getD 3 0 + vs.getD 2 0 * 64 + vs.getD 1 0 * 4096 + vs.getD 0 0 * 262144 else vs.getD 0 0 + vs.getD 1 0 * 64 + vs.getD 2 0 * 4096 + vs.getD 3 0 * 262144
theorem dec24_ok {t1 : Tok} (hA : AOk A 10) (X : Top w hp) (H : Eng hp p e chars big) (hb : b.size = 4) (S : Spells chars b vs)
   (hQ : ∀ h' t' tk, Keeps hp h' → Q (.int (num4 big vs : Int) tk) ⟨h', g, d, t', os⟩) :
   wpAny (model pg w) A (call (.ref 235) [.ref e, .bytes b t1]) Q E ⟨hp, g, d, t, os⟩ := by
  refine call_fn' (n := 8) (binds := [("self", .ref e), ("source", .bytes b t1)]) hA X fn235 (by rfl) (by decide) (by rfl) (locs (by rfl)) ?_
  intro h₁ t₁ L F hA'
  refine s_cons ?_
  repeat tb_rel
  refine up hA' (x_isinst_bytes_bytes (F.top X) ?_)
  lcg_off
  repeat tb_rel
  refine up hA' (x_len_bytes (F.top X) (by omega) ?_)
  lcg_src
  repeat tb_rel
  refine br_is false (by rw [hb]; rfl) ?_
  repeat tb_rel
  refine ga_dec64 (F.top X) (H.keep F.old) ?_
  intro _
  repeat tb_rel
  refine s_try ?_
  repeat tb_rel
  refine ga_big (F.top X) (H.keep F.old) ?_
  intro _
  repeat tb_rel
  have l0 := spells_lt S (Int.toNat 0); have l1 := spells_lt S (Int.toNat 1); have l2 := spells_lt S (Int.toNat 2); have l3 := spells_lt S (Int.toNat 3)
  cases big with
  | true =>
    repeat tb_rel
    repeat (
      refine callD (id := "dict.__getitem__") (self := .ref p.dd) ?_ rfl rfl
      repeat tb_rel
      refine tl_bi (by decide) (by rw [hb]; decide) (by omega) ?_ (by with_unfolding_all rfl) (by intro _; with_unfolding_all rfl)
      intro _ _
      repeat tb_rel
      refine And.intro (H.keep F.old).w2 ?_
      refine dec1 (H.keep F.old) S (by rw [hb]; decide) ?_
      intro _ _
      repeat (first | (with_reducible refine n_add ?_; intro _ _) | (with_reducible refine n_shl12 (by omega) ?_; intro _ _) | (with_reducible refine n_shl18 (by omega) ?_; intro _ _) | tb_rel))
    refine try_ret ?_
    repeat tb_rel
    exact hQ _ _ _ F.old
  | false =>
    repeat tb_rel
    repeat (
      refine callD (id := "dict.__getitem__") (self := .ref p.dd) ?_ rfl rfl
      repeat tb_rel
      refine tl_bi (by decide) (by rw [hb]; decide) (by omega) ?_ (by with_unfolding_all rfl) (by intro _; with_unfolding_all rfl)
      intro _ _
      repeat tb_rel
      refine And.intro (H.keep F.old).w2 ?_
      refine dec1 (H.keep F.old) S (by rw [hb]; decide) ?_
      intro _ _
      repeat (first | (with_reducible refine n_add ?_; intro _ _) | (with_reducible refine n_shl12 (by omega) ?_; intro _ _) | (with_reducible refine n_shl18 (by omega) ?_; intro _ _) | tb_rel))
    refine try_ret ?_
    repeat tb_rel
    exact hQ _ _ _ F.old
end
end
section
theorem It.list {w : World} (I l : Addr) (hne : l ≠ I) (items : Array Value) (n : Nat) (hn : items.size = n) :
    It w 1 Builtin.«list_iterator.__next__» "list_iterator" "list_iterator.__next__" I [I, l] [I] [] n (fun i v => items[i]? = some v) (fun i s => s.heap.IsListIter I l i ∧ s.heap.IsList l items) where
  sub := fun b hb => by simp at hb; simp [hb]
  slot := slot_listiter_next
  entry := entry_listiter_next
  args := args_listiter_next _
  live := fun i s st b hb => by simp at hb; obtain ⟨⟨o, ho, _⟩, _⟩ := st; exact ⟨o, hb ▸ ho⟩
  ty := fun i s st => st.1.typeIs
  frame := fun i s s' st hk _ => by
    obtain ⟨⟨o, ho, r⟩, ⟨o2, ho2, r2⟩⟩ := st
    exact ⟨⟨o, hk I (by simp) o ho, r⟩, ⟨o2, hk l (by simp) o2 ho2, r2⟩⟩
  item := fun A hA i s Q E hi st hQ => by
    obtain ⟨⟨o, ho, hc, hd⟩, hl⟩ := st
    have hl' := hl
    obtain ⟨ol, hol, hcl, nl, hdl⟩ := hl
    have hx : items[i]? = some (items[i]'(by omega)) := by simp
    show wpAny _ _ (field (.ref I) 0 >>= _) _ _ s
    refine wpAny_bind (wpAny_field ho hd (x := .ref l) rfl ?_)
    show wpAny _ _ (if (Value.ref l == Value.none) = true then _ else _) _ _ s
    rw [if_neg (show ¬ ((Value.ref l == Value.none) = true) from Bool.false_ne_true)]
    show wpAny _ _ (field (.ref I) 1 >>= _) _ _ s
    refine wpAny_bind (wpAny_field ho hd (x := .int i 0) rfl ?_)
    show wpAny _ _ (seqItems? (.ref l) >>= _) _ _ s
    refine wpAny_bind (wpAny_seqItems hol hdl ?_)
    simp only [Int.toNat_natCast, hx]
    have ho' := Heap.get?_update_self (h := s.heap) (a := I) (Obj.mapFields (·.setIfInBounds 1 (rawInt ((i : Int) + 1)))) ho (Obj.isFreed_of_fields (Obj.data_mapFields hd _))
    refine wpAny_bind (wpAny_setField ho hd (by simp) (wpAny_pure (hQ _ _ hx ⟨?_, hl'.extBut (Heap.SameBut.update ..).extBut hne⟩ (Mv.of_same (Heap.SameBut.update ..) (by simp) ho'))))
    exact ⟨_, ho', (Obj.cls_mapFields ..).trans hc, by rw [Obj.data_mapFields hd]; simp [rawInt]⟩
  done := fun A hA s Q E st hE => by
    obtain ⟨⟨o, ho, hc, hd⟩, ⟨ol, hol, hcl, nl, hdl⟩⟩ := st
    have hx : items[n]? = none := by simp [hn]
    show wpAny _ _ (field (.ref I) 0 >>= _) _ _ s
    refine wpAny_bind (wpAny_field ho hd (x := .ref l) rfl ?_)
    show wpAny _ _ (if (Value.ref l == Value.none) = true then _ else _) _ _ s
    rw [if_neg (show ¬ ((Value.ref l == Value.none) = true) from Bool.false_ne_true)]
    show wpAny _ _ (field (.ref I) 1 >>= _) _ _ s
    refine wpAny_bind (wpAny_field ho hd (x := .int (n : Nat) 0) rfl ?_)
    show wpAny _ _ (seqItems? (.ref l) >>= _) _ _ s
    refine wpAny_bind (wpAny_seqItems hol hdl ?_)
    simp only [Int.toNat_natCast, hx]
    refine wpAny_bind (wpAny_rule (wpAny_bind (wpAny_setField ho hd (by simp) ?_)))
    refine stop_here hA fun e h' x k => hE e _ x ((Mv.of_same (Heap.SameBut.update ..) (by simp) (Heap.get?_update_self _ ho (Obj.isFreed_of_fields (Obj.data_mapFields hd _)))).trans (Mv.of_keeps k))
/-- a list read backwards -/
def IsRev (h : Heap) (I l : Addr) (k : Int) : Prop := ∃ o, h.get? I = some o ∧ o.cls = .type "list_reverseiterator" ∧ o.data = .fields #[.ref l, .int k 0]
theorem It.rev {w : World} (I l : Addr) (hne : l ≠ I) (items : Array Value) (n : Nat) (hn : items.size = n) :
    It w 1 Builtin.«list_reverseiterator.__next__» "list_reverseiterator" "list_reverseiterator.__next__" I [I, l] [I] [] n (fun i v => items[n - 1 - i]? = some v) (fun i s => IsRev s.heap I l ((n : Int) - 1 - i) ∧ s.heap.IsList l items) where
  sub := fun b hb => by simp at hb; simp [hb]
  slot := PySem.F.slot_lri_next
  entry := PySem.F.entry_lri_next
  args := PySem.F.args_lri_next_1 _
  live := fun i s st b hb => by simp at hb; obtain ⟨⟨o, ho, _⟩, _⟩ := st; exact ⟨o, hb ▸ ho⟩
  ty := fun i s st => let ⟨⟨o, ho, hc, _⟩, _⟩ := st; ⟨o, ho, hc⟩
  frame := fun i s s' st hk _ => by
    obtain ⟨⟨o, ho, r⟩, ⟨o2, ho2, r2⟩⟩ := st
    exact ⟨⟨o, hk I (by simp) o ho, r⟩, ⟨o2, hk l (by simp) o2 ho2, r2⟩⟩
  item := fun A hA i s Q E hi st hQ => by
    obtain ⟨⟨o, ho, hc, hd⟩, hl⟩ := st
    have hl' := hl
    obtain ⟨ol, hol, hcl, nl, hdl⟩ := hl
    have hx : items[n - 1 - i]? = some (items[n - 1 - i]'(by omega)) := by simp
    show wpAny _ _ (field (.ref I) 1 >>= _) _ _ s
    refine wpAny_bind (wpAny_field ho hd (x := .int ((n : Int) - 1 - i) 0) rfl ?_)
    show wpAny _ _ (if ((n : Int) - 1 - i) < 0 then _ else _) _ _ _
    rw [if_neg (by omega)]
    show wpAny _ _ (field (.ref I) 0 >>= _) _ _ s
    refine wpAny_bind (wpAny_field ho hd (x := .ref l) rfl ?_)
    refine wpAny_bind (wpAny_seqItems hol hdl ?_)
    rw [show ((n : Int) - 1 - i).toNat = n - 1 - i by omega]
    simp only [hx]
    have ho' := Heap.get?_update_self (h := s.heap) (a := I) (Obj.mapFields (·.setIfInBounds 1 (rawInt (((n : Int) - 1 - i) - 1)))) ho (Obj.isFreed_of_fields (Obj.data_mapFields hd _))
    refine wpAny_bind (wpAny_setField ho hd (by simp) (wpAny_pure (hQ _ _ hx ⟨?_, hl'.extBut (Heap.SameBut.update ..).extBut hne⟩ (Mv.of_same (Heap.SameBut.update ..) (by simp) ho'))))
    exact ⟨_, ho', (Obj.cls_mapFields ..).trans hc, by rw [Obj.data_mapFields hd]; simp [rawInt]; omega⟩
  done := fun A hA s Q E st hE => by
    obtain ⟨⟨o, ho, hc, hd⟩, ⟨ol, hol, hcl, nl, hdl⟩⟩ := st
    show wpAny _ _ (field (.ref I) 1 >>= _) _ _ s
    refine wpAny_bind (wpAny_field ho hd (x := .int ((n : Int) - 1 - (n : Nat)) 0) rfl ?_)
    show wpAny _ _ (if ((n : Int) - 1 - (n : Nat)) < 0 then _ else _) _ _ _
    rw [if_pos (by omega)]
    refine wpAny_bind (wpAny_rule ?_)
    refine wpAny_bind ?_
    refine stop_here hA fun e h' x k => hE e _ x (Mv.of_keeps k)

def ListQ (Q : Value → Shared → Prop) : List Value → Shared → Prop := fun vs s => vs.length ≤ 16777216 ∧ ∀ h' l, Keeps s.heap h' → h'.get? l = some ⟨.type "list", none, .seq vs.toArray 0, #[]⟩ → s.heap.get? l = none → Q (.ref l) ⟨h', s.gens, s.drawn, s.toks, s.os⟩
theorem get_size (h : Heap) : h.get? h.objs.size = none := by
  cases e : h.get? h.objs.size with
  | none => rfl
  | some o => exact absurd (Heap.lt_size e) (Nat.lt_irrefl _)
theorem e_list {M : Model} {A : Around} {E : Value → Shared → Prop} {s : Shared} {env : Env} {elts : List PySem.Expr} {pos : Pos} {Q : Value → Shared → Prop} (k : wpAny M A (spliced (backTo pos (starEach elts env))) (ListQ Q) E s) : wpAny M A (eval (.List elts pos) env) Q E s :=
  wpAny_List (wpAny_mono k (fun vs s₁ q => ⟨by rw [sizeLine_eq]; exact q.1, q.2 _ _ (fun b o e => Heap.get?_push_of_some _ e) (Heap.get?_push_size _ rfl) (get_size _)⟩) fun _ _ x => x)
theorem or_f {M : Model} {A : Around} {E : Value → Shared → Prop} {s : Shared} {env : Env} {x : PySem.Expr} {rest : List PySem.Expr} {Q : Bool → Shared → Prop} (k : wpAny M A (isTrue x env (eval x env)) (fun b s₁ => b = false ∧ wpAny M A (allTrue .Or rest env) Q E s₁) E s) : wpAny M A (allTrue .Or (x :: rest) env) Q E s := by
  refine wpAny_allTrue_Or_cons (wpAny_mono k (fun b s₁ q => ?_) fun _ _ x => x)
  obtain ⟨rfl, q⟩ := q
  exact q
theorem or_nil {M : Model} {A : Around} {E : Value → Shared → Prop} {s : Shared} {env : Env} {Q : Bool → Shared → Prop} (k : Q false s) : wpAny M A (allTrue .Or [] env) Q E s := wpAny_allTrue_Or_nil k
section
variable {w : World} {A : Around} {E : Value → Shared → Prop} {Q : Value → Shared → Prop} {h : Heap} {g : Array GenState} {d : Drawn} {t : Nat} {os : OsState}
theorem x_rev4 {l : Addr} {a b c e : Value} (X : Frag.In (K1 w.params) h) (hl : h.get? l = some ⟨.type "list", none, .seq #[a, b, c, e] 0, #[]⟩) (hk : ∀ h' t' I, Mem h h' [] [(I, ⟨.type "list_reverseiterator", none, .fields #[.ref l, .int 3 0], #[]⟩)] → Q (.ref I) ⟨h', g, d, t', os⟩) :
    wpAny (model pg w) AX (call (.type "reversed") [.ref l]) Q E ⟨h, g, d, t, os⟩ := by x_run
theorem x_mapL {l q : Addr} {a b c e : Value} (X : Frag.In (K1 w.params) h) (hl : h.get? l = some ⟨.type "list", none, .seq #[a, b, c, e] 0, #[]⟩) (hk : ∀ h' t' z T I, Mem h h' [] [(z, ⟨.type "map", none, .fields #[.ref T, .ref q], #[]⟩), (T, ⟨.type "tuple", none, .seq #[.ref I] 0, #[]⟩), (I, ⟨.type "list_iterator", none, .fields #[.ref l, .int 0 0], #[]⟩)] → Q (.ref z) ⟨h', g, d, t', os⟩) :
    wpAny (model pg w) AX (call (.type "map") [.ref q, .ref l]) Q E ⟨h, g, d, t, os⟩ := by x_run
theorem x_mapR {l q I : Addr} (X : Frag.In (K1 w.params) h) (hl : h.get? I = some ⟨.type "list_reverseiterator", none, .fields #[.ref l, .int 3 0], #[]⟩) (hk : ∀ h' t' z T, Mem h h' [] [(z, ⟨.type "map", none, .fields #[.ref T, .ref q], #[]⟩), (T, ⟨.type "tuple", none, .seq #[.ref I] 0, #[]⟩)] → Q (.ref z) ⟨h', g, d, t', os⟩) :
    wpAny (model pg w) AX (call (.type "map") [.ref q, .ref I]) Q E ⟨h, g, d, t, os⟩ := by x_run
end
end
section
section
variable {w : World} {A : Around} {n : Nat} {E : Value → Shared → Prop} {Q : Value → Shared → Prop} {hp : Heap} {g : Array GenState} {d : Drawn} {t : Nat} {os : OsState} {p : EngP} {e : Addr} {chars b : Array UInt8} {big : Bool} {a : Nat} {u v : Tok}
theorem n_shr12 (k : ∀ x y, Q (.int ((a / 4096 : Nat) : Int) x) ⟨hp, g, d, y, os⟩) : wpAny (model pg w) A (binaryOp .RShift (.int (a : Int) u) (.int 12 v)) Q E ⟨hp, g, d, t, os⟩ := by
  refine i_shr (by decide) fun x y => ?_; have := k x y; rwa [← fdiv_nat] at this
theorem n_shr18 (k : ∀ x y, Q (.int ((a / 262144 : Nat) : Int) x) ⟨hp, g, d, y, os⟩) : wpAny (model pg w) A (binaryOp .RShift (.int (a : Int) u) (.int 18 v)) Q E ⟨hp, g, d, t, os⟩ := by
  refine i_shr (by decide) fun x y => ?_; have := k x y; rwa [← fdiv_nat] at this
def dig4 (big : Bool) (x i : Nat) : Nat := [x % 64, x / 64 % 64, x / 4096 % 64, x / 262144 % 64].getD (if big then 3 - i else i) 0
theorem dig4_lt (big : Bool) (x i : Nat) : dig4 big x i < 64 := by
  unfold dig4
  generalize (if big then 3 - i else i) = j
  match j with
  | 0 => exact Nat.mod_lt _ (by decide)
  | 1 => exact Nat.mod_lt _ (by decide)
  | 2 => exact Nat.mod_lt _ (by decide)
  | 3 => exact Nat.mod_lt _ (by decide)
  | j + 4 => show 0 < 64; decide
/-- bytes of the table's letters at handed-out places -/
theorem bytes_map {c : Nat} {b : Builtin} {T id : String} {I z TI : Addr} {fp wr : List Addr} {gr : List Nat} {n : Nat} {f : Nat → Nat} {St : Nat → Shared → Prop} {s : Shared} (W0 : It w c b T id I fp wr gr n (oP f) St) (hc : 4 ≤ c) (hA : AOk A (c + 7)) (hf : ∀ i < n, f i < 64) (hn : n ≤ 100000)
    (hq : s.heap.get? p.q1 = some (wrapObj "bytes.__getitem__" (.bytes chars p.tc))) (hs : chars.size = 64) (hz : s.heap.get? z = some (mapObj TI (.ref p.q1))) (hT : s.heap.get? TI = some (tup1 I)) (st : St 0 s) (live : ∀ b ∈ fp, ∃ o, s.heap.get? b = some o)
    (zw : z ∉ wr) (tw : TI ∉ wr) (qw : p.q1 ∉ wr) (hQ : ∀ s' t, Mv wr gr s s' → Q (.bytes (outArr (fun k => (chars.getD (f k) 0).toNat) n) t) s') : wpAny (model pg w) A (call (.type "bytes") [.ref z]) Q E s := by
  have W := It.map (z := z) (TI := TI) (f := .ref p.q1) (fpf := [p.q1]) (c2 := 5) (Hf := fun h => h.get? p.q1 = some (wrapObj "bytes.__getitem__" (.bytes chars p.tc))) (P' := oP (fun k => (chars.getD (f k) 0).toNat)) W0
    (fun h h' a k => k _ (by simp) _ a) (fun b hb hx => by simp at hx; exact qw (hx ▸ hb)) zw tw (fun A hA i v s Q E hi hv hf' hQ => by
      obtain ⟨u, rfl⟩ := hv
      refine call_bget hf' ?_ (by rw [hs]; decide) fun u t => hQ _ _ ⟨u, rfl⟩ (Mv.refl.tok t)
      rw [hs]; exact hf i hi) (by omega)
  refine bytes_of plain_map (fun A E s Q st hq => pyIter_map st.1 hq) (fun o e => ?_) W (hA.less (by omega)) (fun i hi => UInt8.toNat_lt _) hn ⟨hz, hT, st, hq⟩ ?_ hQ
  · rw [hz] at e; cases e; exact ⟨_, rfl⟩
  · intro b hb
    simp only [List.cons_append, List.nil_append, List.mem_cons, List.mem_append, List.not_mem_nil, or_false] at hb
    rcases hb with rfl | rfl | hb | rfl
    · exact ⟨_, hz⟩
    · exact ⟨_, hT⟩
    · exact live b hb
    · exact ⟨_, hq⟩
theorem It.up4 {c c' : Nat} {b : Builtin} {T id : String} {I : Addr} {fp wr : List Addr} {gr : List Nat} {n : Nat} {P : Nat → Value → Prop} {St : Nat → Shared → Prop} (W : It w c b T id I fp wr gr n P St) (h : c ≤ c') : It w c' b T id I fp wr gr n P St :=
  { W with item := fun A hA => W.item A (hA.less h), done := fun A hA => W.done A (hA.less h) }
theorem four_at {x : Nat} {v1 v2 v3 v4 v : Value} {i : Nat} (hi : i < 4) (p : (#[v1, v2, v3, v4] : Array Value)[i]? = some v) (h1 : ∃ u, v1 = .int ((x % 64 : Nat) : Int) u) (h2 : ∃ u, v2 = .int ((x / 64 % 64 : Nat) : Int) u) (h3 : ∃ u, v3 = .int ((x / 4096 % 64 : Nat) : Int) u) (h4 : ∃ u, v4 = .int ((x / 262144 % 64 : Nat) : Int) u) :
    ∃ u, v = .int (([x % 64, x / 64 % 64, x / 4096 % 64, x / 262144 % 64].getD i 0 : Nat) : Int) u := by
  match i, hi with
  | 0, _ => exact (Option.some.inj (show some v1 = some v from p)) ▸ h1
  | 1, _ => exact (Option.some.inj (show some v2 = some v from p)) ▸ h2
  | 2, _ => exact (Option.some.inj (show some v3 = some v from p)) ▸ h3
  | 3, _ => exact (Option.some.inj (show some v4 = some v from p)) ▸ h4
theorem enc24_ok {x : Nat} {t1 : Tok} (hA : AOk A 20) (X : Top w hp) (H : Eng hp p e chars big) (hx : x < 16777216)
   (hQ : ∀ h' t' tk, Keeps hp h' → Q (.bytes (outArr (fun k => (chars.getD (dig4 big x k) 0).toNat) 4) tk) ⟨h', g, d, t', os⟩) :
   wpAny (model pg w) A (call (.ref 277) [.ref e, .int (x : Int) t1]) Q E ⟨hp, g, d, t, os⟩ := by
  refine call_fn' (n := 18) (binds := [("self", .ref e), ("value", .int (x : Int) t1)]) hA X fn277 (by rfl) (by decide) (by rfl) (locs (by rfl)) ?_
  intro h₁ t₁ L F hA'
  refine s_cons ?_
  repeat tb_rel
  refine or_f ?_
  repeat tb_rel
  refine ⟨decide_eq_false (by omega), ?_⟩
  refine or_f ?_
  repeat tb_rel
  refine ⟨decide_eq_false (by omega), ?_⟩
  refine or_nil ?_
  repeat tb_rel
  refine e_list ?_
  repeat (first | (with_reducible refine n_shr12 ?_; intro _ _) | (with_reducible refine n_shr18 ?_; intro _ _) | tb_rel)
  refine ⟨by show 4 ≤ 16777216; decide, ?_⟩
  intro h l k hl nl
  obtain ⟨v1, v2, v3, v4, hv1, hv2, hv3, hv4, hl⟩ : ∃ v1 v2 v3 v4 : Value, (∃ u, v1 = .int ((x % 64 : Nat) : Int) u) ∧ (∃ u, v2 = .int ((x / 64 % 64 : Nat) : Int) u) ∧ (∃ u, v3 = .int ((x / 4096 % 64 : Nat) : Int) u) ∧ (∃ u, v4 = .int ((x / 262144 % 64 : Nat) : Int) u) ∧ h.get? l = some ⟨.type "list", none, .seq #[v1, v2, v3, v4] 0, #[]⟩ := ⟨_, _, _, _, ⟨_, rfl⟩, ⟨_, rfl⟩, ⟨_, rfl⟩, ⟨_, rfl⟩, hl⟩
  replace F := F.add k hl nl
  clear k hl nl
  repeat tb_rel
  refine ga_big (F.top X) (H.keep F.old) ?_
  intro _
  cases big with
  | true =>
    repeat tb_rel
    refine up hA' (x_rev4 (F.top X) (F.get (List.mem_cons_self ..)) ?_)
    intro h _ I D
    have nI := D.nw _ (List.mem_cons_self ..)
    dsimp only at nI
    have hIl : l ≠ I := fun x => by have := F.get (List.mem_cons_self ..); rw [x, nI.2] at this; cases this
    replace F := F.add (keeps_of_mem D) nI.1 nI.2
    clear D nI
    repeat tb_rel
    refine ga_enc64 (F.top X) (H.keep F.old) ?_
    intro _
    repeat tb_rel
    refine up hA' (x_mapR (F.top X) (F.get (List.mem_cons_self ..)) ?_)
    intro h2 t2 z T D
    have nz := D.nw _ (List.mem_cons_self ..)
    have nT := D.nw _ (List.mem_cons_of_mem _ (List.mem_cons_self ..))
    dsimp only at nz nT
    have hIh := keeps_of_mem D _ _ (F.get (a := I) (o := ⟨.type "list_reverseiterator", none, .fields #[.ref l, .int 3 0], #[]⟩) (by simp))
    have hI0 := (F.N (I, ⟨.type "list_reverseiterator", none, .fields #[.ref l, .int 3 0], #[]⟩) (by simp)).2.2
    have LI : L ≠ I := Ne.symm (F.N (I, ⟨.type "list_reverseiterator", none, .fields #[.ref l, .int 3 0], #[]⟩) (by simp)).2.1
    have zI : z ≠ I := fun x => by have := F.get (a := I) (o := ⟨.type "list_reverseiterator", none, .fields #[.ref l, .int 3 0], #[]⟩) (by simp); rw [← x, nz.2] at this; cases this
    have TI : T ≠ I := fun x => by have := F.get (a := I) (o := ⟨.type "list_reverseiterator", none, .fields #[.ref l, .int 3 0], #[]⟩) (by simp); rw [← x, nT.2] at this; cases this
    have W0 := ((It.rev (w := w) I l hIl #[v1, v2, v3, v4] 4 rfl).weaken (P' := oP (dig4 true x)) (fun i v hi p => four_at (i := 4 - 1 - i) (by omega) p hv1 hv2 hv3 hv4)).up4 (c' := 4) (by omega)
    have Lz := F.neL nz.2
    have z0 := F.h0 nz.2
    repeat tb_rel
    have hq := (H.keep (F.old.trans (keeps_of_mem D))).w1
    have hll := keeps_of_mem D _ _ (F.get (a := l) (o := ⟨.type "list", none, .seq #[v1, v2, v3, v4] 0, #[]⟩) (by simp))
    have qI : p.q1 ∉ [I] := fun hx => by
      have hx : p.q1 = I := by simpa using hx
      have := H.w1; rw [hx, hI0] at this; cases this
    refine bytes_map (p := p) (chars := chars) W0 (by omega) (hA'.less (by omega)) (fun i _ => dig4_lt _ x i) (by omega) hq H.size nz.1 nT.1 ?_ ?_ (by simpa using zI) (by simpa using TI) qI ?_
    · exact ⟨⟨_, hIh, rfl, rfl⟩, ⟨_, hll, rfl, 0, rfl⟩⟩
    · intro b hb
      simp only [List.mem_cons, List.not_mem_nil, or_false] at hb
      rcases hb with rfl | rfl
      · exact ⟨_, hIh⟩
      · exact ⟨_, hll⟩
    · intro s' tk mv
      obtain ⟨h3, t3, rfl⟩ := mv.shaped
      replace F := (F.kept (keeps_of_mem D)).drop.mark.mv (s := ⟨h2, g, d, t2, os⟩) (s' := ⟨h3, g, d, t3, os⟩) mv (by simpa using LI) (by
        intro a ha o e
        have ha : a = I := by simpa using ha
        rw [ha, hI0] at e; cases e) (by simp)
      repeat tb_rel
      exact hQ _ _ _ F.old
  | false =>
    repeat tb_rel
    refine ga_enc64 (F.top X) (H.keep F.old) ?_
    intro _
    repeat tb_rel
    refine up hA' (x_mapL (F.top X) (F.get (List.mem_cons_self ..)) ?_)
    intro h2 t2 z T I D
    have nz := D.nw _ (List.mem_cons_self ..)
    have nT := D.nw _ (List.mem_cons_of_mem _ (List.mem_cons_self ..))
    dsimp only at nz nT
    have nI := D.nw _ (List.mem_cons_of_mem _ (List.mem_cons_of_mem _ (List.mem_cons_self ..)))
    dsimp only at nI
    have ord := D.ord
    simp only [List.map_cons, List.map_nil, List.pairwise_cons, List.mem_cons, List.not_mem_nil, or_false, forall_eq_or_imp, forall_eq, gt_iff_lt] at ord
    obtain ⟨⟨p1, p2⟩, p3, -⟩ := ord
    have zI : z ≠ I := Nat.ne_of_gt p2
    have TI : T ≠ I := Nat.ne_of_gt p3
    clear p1 p2 p3
    have hIh := nI.1
    have hI0 := F.h0 nI.2
    have LI := F.neL nI.2
    have hIl : l ≠ I := fun x => by have := F.get (List.mem_cons_self ..); rw [x, nI.2] at this; cases this
    have W0 := ((It.list (w := w) I l hIl #[v1, v2, v3, v4] 4 rfl).weaken (P' := oP (dig4 false x)) (fun i v hi p => four_at hi p hv1 hv2 hv3 hv4)).up4 (c' := 4) (by omega)
    have Lz := F.neL nz.2
    have z0 := F.h0 nz.2
    repeat tb_rel
    have hq := (H.keep (F.old.trans (keeps_of_mem D))).w1
    have hll := keeps_of_mem D _ _ (F.get (a := l) (o := ⟨.type "list", none, .seq #[v1, v2, v3, v4] 0, #[]⟩) (by simp))
    have qI : p.q1 ∉ [I] := fun hx => by
      have hx : p.q1 = I := by simpa using hx
      have := H.w1; rw [hx, hI0] at this; cases this
    refine bytes_map (p := p) (chars := chars) W0 (by omega) (hA'.less (by omega)) (fun i _ => dig4_lt _ x i) (by omega) hq H.size nz.1 nT.1 ?_ ?_ (by simpa using zI) (by simpa using TI) qI ?_
    · exact ⟨⟨_, hIh, rfl, rfl⟩, ⟨_, hll, rfl, 0, rfl⟩⟩
    · intro b hb
      simp only [List.mem_cons, List.not_mem_nil, or_false] at hb
      rcases hb with rfl | rfl
      · exact ⟨_, hIh⟩
      · exact ⟨_, hll⟩
    · intro s' tk mv
      obtain ⟨h3, t3, rfl⟩ := mv.shaped
      replace F := (F.kept (keeps_of_mem D)).drop.mark.mv (s := ⟨h2, g, d, t2, os⟩) (s' := ⟨h3, g, d, t3, os⟩) mv (by simpa using LI) (by
        intro a ha o e
        have ha : a = I := by simpa using ha
        rw [ha, hI0] at e; cases e) (by simp)
      repeat tb_rel
      exact hQ _ _ _ F.old
end
end
section
theorem slot_rev_next : Slot "reversed" "__next__" "reversed.__next__" := .of (owner := "reversed") (n := "__next__") (by rw [typeLookup_type, builtinLookup_eq_fast]; kernel_rfl) (by decide +kernel) (by decide +kernel) (by decide +kernel)
    (by first | exact .inl (by decide +kernel) | exact .inr (by decide +kernel)) (by rw [isSubtype_type]; kernel_rfl)
theorem entry_rev_next : entryFor table "reversed.__next__" = some Builtin.«reversed.__next__» := entryFor_of_tree (by kernel_rfl)
theorem args_rev_next (a : Value) : argsOk "reversed.__next__" ⟨[a], []⟩ := by unfold argsOk; kernel_rfl
theorem slot_rev_iter : Slot "reversed" "__iter__" "reversed.__iter__" := .of (owner := "reversed") (n := "__iter__") (by rw [typeLookup_type, builtinLookup_eq_fast]; kernel_rfl) (by decide +kernel) (by decide +kernel) (by decide +kernel)
    (by first | exact .inl (by decide +kernel) | exact .inr (by decide +kernel)) (by rw [isSubtype_type]; kernel_rfl)
theorem entry_rev_iter : entryFor table "reversed.__iter__" = some Builtin.«dict_keyiterator.__iter__» := entryFor_alias (id' := "dict_keyiterator.__iter__") (by kernel_rfl) rfl (by decide +kernel) (by kernel_rfl)
theorem args_rev_iter (a : Value) : argsOk "reversed.__iter__" ⟨[a], []⟩ := by unfold argsOk; kernel_rfl
def IsRevB (h : Heap) (I : Addr) (b : Array UInt8) (t : Tok) (k : Int) : Prop := ∃ o, h.get? I = some o ∧ o.cls = .type "reversed" ∧ o.data = .fields #[.bytes b t, .int k 0]
theorem pyIter_rev {w : World} {A : Around} {E : Value → Shared → Prop} {s : Shared} {Q : Value → Shared → Prop} {I : Addr} {b : Array UInt8} {t : Tok} {k : Int} (hz : IsRevB s.heap I b t k) (hq : Q (.ref I) s) : wpAny (model pg w) A (pyIter (.ref I)) Q E s := by
  have hT : s.TypeIs (.ref I) "reversed" := let ⟨o, ho, hc, _⟩ := hz; ⟨o, ho, hc⟩
  refine wpAny_pyIter_slot hT slot_rev_iter (wpAny_call_entry slot_rev_iter hT entry_rev_iter ?_ (args_rev_iter _))
  show wpAny _ _ (ret (.ref I)) _ _ s
  exact wpAny_pure ⟨_, rfl, "reversed", _, hT, slot_rev_next.lookup, hq⟩
theorem It.revB {w : World} (I : Addr) (b : Array UInt8) (t : Tok) (n : Nat) (hn : b.size = n) (hz : n ≤ 1000000) :
    It w 4 Builtin.«reversed.__next__» "reversed" "reversed.__next__" I [I] [I] [] n (fun i v => ∃ u, v = .int (((b.getD (n - 1 - i) 0).toNat : Nat) : Int) u) (fun i s => IsRevB s.heap I b t ((n : Int) - 1 - i)) where
  sub := fun _ h => h
  slot := slot_rev_next
  entry := entry_rev_next
  args := args_rev_next _
  live := fun i s st b hb => by simp at hb; obtain ⟨o, ho, _⟩ := st; exact ⟨o, hb ▸ ho⟩
  ty := fun i s st => let ⟨o, ho, hc, _⟩ := st; ⟨o, ho, hc⟩
  frame := fun i s s' st hk _ => let ⟨o, ho, r⟩ := st; ⟨o, hk I (by simp) o ho, r⟩
  item := fun A hA i s Q E hi st hQ => by
    obtain ⟨o, ho, hc, hd⟩ := st
    show wpAny _ _ (field (.ref I) 0 >>= _) _ _ s
    refine wpAny_bind (wpAny_field ho hd (x := .bytes b t) rfl ?_)
    show wpAny _ _ (field (.ref I) 1 >>= _) _ _ s
    refine wpAny_bind (wpAny_field ho hd (x := .int ((n : Int) - 1 - i) 0) rfl ?_)
    show wpAny _ _ (if ((n : Int) - 1 - i) < 0 then _ else _) _ _ _
    rw [if_neg (by omega)]
    refine wpAny_bind (wpAny_specialOf (typeIs_bytes _ _ _) FB.slot_bytes_getitem.lookup ?_)
    refine KFB.if_not rfl ?_
    refine wpAny_bind (wpAny_mkInt ?_)
    have e2 : (seqIndex? ((n : Int) - 1 - i) b.size).bind (b[·]?) = some (b.getD (n - 1 - i) 0) := by
      have h2 : ¬ ((n : Int) - 1 - i) < 0 := by omega
      have h3 : ((n : Int) - 1 - i) < (b.size : Int) := by omega
      have h4 : ((n : Int) - 1 - i).toNat = n - 1 - i := by omega
      have h5 : n - 1 - i < b.size := by omega
      have h6 : seqIndex? ((n : Int) - 1 - i) b.size = some (n - 1 - i) := by simp [seqIndex?, h2]; omega
      rw [h6]
      simp [Array.getD, h5]
    have e3 : Builtin.Bytes.fitsIndex ((n : Int) - 1 - i) = true := by
      simp only [Builtin.Bytes.fitsIndex, Bool.and_eq_true, decide_eq_true_eq]; omega
    refine wpAny_bind (wpAny_attempt (getItem_gives (typeIs_bytes _ _ t) (by decide) FB.slot_bytes_getitem FB.entry_bytes_getitem (FB.args_bytes_getitem_2 _ _) (W.gives_bytes_getitem b ((n : Int) - 1 - i) t _ _ e3 e2) ?_))
    show wpAny _ _ (field (.ref I) 1 >>= _) _ _ _
    refine wpAny_bind (wpAny_field ho hd (x := .int ((n : Int) - 1 - i) 0) rfl ?_)
    have ho' := Heap.get?_update_self (h := s.heap) (a := I) (Obj.mapFields (·.setIfInBounds 1 (rawInt (((n : Int) - 1 - i) - 1)))) ho (Obj.isFreed_of_fields (Obj.data_mapFields hd _))
    refine wpAny_bind (wpAny_setField ho hd (by simp) (wpAny_pure (hQ _ _ ⟨_, rfl⟩ ?_ ((Mv.of_same (Heap.SameBut.update ..) (by simp) ho').tok _))))
    exact ⟨_, ho', (Obj.cls_mapFields ..).trans hc, by rw [Obj.data_mapFields hd]; simp [rawInt]; omega⟩
  done := fun A hA s Q E st hE => by
    obtain ⟨o, ho, hc, hd⟩ := st
    show wpAny _ _ (field (.ref I) 0 >>= _) _ _ s
    refine wpAny_bind (wpAny_field ho hd (x := .bytes b t) rfl ?_)
    show wpAny _ _ (field (.ref I) 1 >>= _) _ _ s
    refine wpAny_bind (wpAny_field ho hd (x := .int ((n : Int) - 1 - (n : Nat)) 0) rfl ?_)
    show wpAny _ _ (if ((n : Int) - 1 - (n : Nat)) < 0 then _ else _) _ _ _
    rw [if_pos (by omega)]
    refine wpAny_bind (wpAny_rule ?_)
    refine wpAny_bind ?_
    have ho' := Heap.get?_update_self (h := s.heap) (a := I) (Obj.mapFields (·.setIfInBounds 1 (rawInt (-1)))) ho (Obj.isFreed_of_fields (Obj.data_mapFields hd _))
    have hd' := Obj.data_mapFields hd (·.setIfInBounds 1 (rawInt (-1)))
    show wpAny _ _ (setField (.ref I) 1 (rawInt (-1)) >>= fun _ => setField (.ref I) 0 .none) _ _ _
    refine wpAny_bind (wpAny_setField ho hd (by simp) ?_)
    refine wpAny_setField ho' hd' (by simp) ?_
    refine wpAny_bind ?_
    refine stop_here hA fun e h' x k => hE e _ x ?_
    refine (Mv.of_same (s := s) (Heap.SameBut.update ..) (by simp) ho').trans ((Mv.of_same (Heap.SameBut.update ..) (by simp) (Heap.get?_update_self _ ho' (Obj.isFreed_of_fields (Obj.data_mapFields hd' _)))).trans (Mv.of_keeps k))
theorem for_1 {w : World} {A : Around} {env : Env} {s : Shared} {Q : Flow → Shared → Prop} {c : Nat} {b : Builtin} {T id : String} {I : Addr} {fp wr : List Addr} {gr : List Nat} {n : Nat} {P : Nat → Value → Prop} {St : Nat → Shared → Prop}
    {x : Str} {px : Pos} {body : List Stmt} (W : It w c b T id I fp wr gr n P St) (hA : AOk A (c + 1)) (Inv : Nat → Shared → Prop) (hs : ∀ i s, Inv i s → St i s)
    (turn : ∀ i s s₁ v, i < n → Inv i s → P i v → St (i + 1) s₁ → Mv wr gr s s₁ →
      wpAny (model pg w) A (storeName env x v) (fun _ s₂ => wpAny (model pg w) A (execs body env) (TurnQ (Inv (i + 1)) (ForR (model pg w) A env (fun _ _ => False) Q)) (fun _ _ => False) s₂) (fun _ _ => False) s₁)
    (done : ∀ s s₁, Inv n s → Mv wr gr s s₁ → Q .next s₁) (h0 : Inv 0 s) : codeAny (model pg w) A (.forLoop (.Name x px) (.ref I) body [] env) (ForR (model pg w) A env (fun _ _ => False) Q) s := by
  have nf : ∀ {α : Type} {t : Sem α} {Q' : α → Shared → Prop} {E' : Value → Shared → Prop} {s : Shared}, wpAny (model pg w) A t Q' (fun _ _ => False) s → wpAny (model pg w) A t Q' E' s := fun h => wpAny_mono h (fun _ _ x => x) fun _ _ x => x.elim
  refine codeAny_forLoop_any (fun k s => ∃ i, k = n - i ∧ i ≤ n ∧ Inv i s) ?_ n ⟨0, rfl, Nat.zero_le _, h0⟩
  rintro k s ⟨i, rfl, hi, hI⟩
  by_cases hlt : i < n
  · refine W.py_item hA hlt (hs _ _ hI) fun v s₁ hp hst hv => ?_
    refine wpAny_pure (M := model pg w) (A := A) (a := ()) ?_
    refine wpAny_assign_Name (wpAny_mono (nf (turn i s s₁ v hlt hI hp hst hv)) (fun _ s₃ h₃ => ?_) fun _ _ x => x)
    refine wpAny_mono (nf h₃) (fun f s₄ h₄ => ?_) fun _ _ x => x
    cases f with
    | next => exact ⟨n - (i + 1), by omega, i + 1, rfl, hlt, h₄⟩
    | cont => exact ⟨n - (i + 1), by omega, i + 1, rfl, hlt, h₄⟩
    | brk => exact h₄
    | ret v => exact h₄
  · obtain rfl : i = n := by omega
    exact W.py_done hA (hs _ _ hI) fun s₁ hv => s_nil (done s s₁ hI hv)
end
section
def accF (f : Nat → Nat) : Nat → Nat
  | 0 => 0
  | i + 1 => accF f i * 64 + f i
theorem accF_lt (f : Nat → Nat) (hf : ∀ i, f i < 64) : ∀ i, accF f i < 64 ^ i
  | 0 => Nat.lt_succ_self 0
  | i + 1 => by
    have h1 := accF_lt f hf i
    have h2 := hf i
    show accF f i * 64 + f i < 64 ^ (i + 1)
    rw [Nat.pow_succ]; omega
def ds (big : Bool) (vs : List Nat) (i : Nat) : Nat := if big then vs.getD i 0 else vs.getD (10 - i) 0
def num11 (big : Bool) (vs : List Nat) : Nat := if big then accF (ds true vs) 11 / 4 else accF (ds false vs) 11 % 2 ^ 64
section
variable {w : World} {A : Around} {n : Nat} {E : Value → Shared → Prop} {Q : Value → Shared → Prop} {hp : Heap} {g : Array GenState} {d : Drawn} {t : Nat} {os : OsState} {p : EngP} {e : Addr} {chars b : Array UInt8} {big : Bool} {vs : List Nat}
theorem x_revB {b : Array UInt8} {t1 : Tok} (X : Frag.In (K1 w.params) hp) (hb : b.size = 11) (hk : ∀ h' t' I, Mem hp h' [] [(I, ⟨.type "reversed", none, .fields #[.bytes b t1, .int ((b.size : Int) - 1) 0], #[]⟩)] → Q (.ref I) ⟨h', g, d, t', os⟩) :
    wpAny (model pg w) AX (call (.type "reversed") [.bytes b t1]) Q E ⟨hp, g, d, t, os⟩ := by x_run
theorem pyIterB {t1 : Tok} (k : ∀ h' I, Keeps hp h' → h'.get? I = some ⟨.type "bytes_iterator", none, .fields #[.bytes b t1, .int 0 0], #[]⟩ → hp.get? I = none → Q (.ref I) ⟨h', g, d, t, os⟩) : wpAny (model pg w) A (pyIter (.bytes b t1)) Q E ⟨hp, g, d, t, os⟩ :=
  KBw.pyIter_bytes (k _ _ (fun b o e => Heap.get?_push_of_some _ e) (Heap.get?_push_size _ rfl) (get_size _))
theorem decint_ok {t1 t2 : Tok} (hA : AOk A 14) (X : Top w hp) (H : Eng hp p e chars big) (hb : b.size = 11) (S : Spells chars b vs)
   (hQ : ∀ h' t' tk, Keeps hp h' → Q (.int (num11 big vs : Int) tk) ⟨h', g, d, t', os⟩) :
   wpAny (model pg w) A (call (.ref 214) [.ref e, .bytes b t1, .int 64 t2]) Q E ⟨hp, g, d, t, os⟩ := by
  refine call_fn' (n := 12) (binds := [("self", .ref e), ("source", .bytes b t1), ("bits", .int 64 t2)]) hA X fn214 (by rfl) (by decide) (by rfl) (locs (by rfl)) ?_
  intro h₁ t₁ L F hA'
  refine s_cons ?_
  repeat tb_rel
  refine up hA' (x_isinst_bytes_bytes (F.top X) ?_)
  lcg_off
  repeat tb_rel
  refine ga_big (F.top X) (H.keep F.old) ?_
  intro _
  repeat tb_rel
  refine i_mod (by decide) ?_
  intro _ _
  rw [show (-64 : Int).fmod 6 = 2 from by decide]
  repeat tb_rel
  refine i_div (by decide) (by decide) ?_
  intro _ _
  rw [show ((64 : Int) + 2).fdiv 6 = 11 from by decide]
  repeat tb_rel
  refine up hA' (x_len_bytes (F.top X) (by omega) ?_)
  lcg_src
  repeat tb_rel
  refine br_is false (by rw [hb]; rfl) ?_
  repeat tb_rel
  refine ga_dec64 (F.top X) (H.keep F.old) ?_
  intro _
  repeat tb_rel
  refine s_try ?_
  repeat tb_rel
  cases big with
  | true =>
    repeat tb_rel
    refine pyIterB ?_
    intro h2 I kI hI nI
    have LI := F.neL nI
    have I0 := F.h0 nI
    replace F := (F.kept kI).drop.mark
    refine for_1 (c := 4) (((It.bytes (w := w) I b t1 11 hb).weaken (P' := fun i v => ∃ u, v = .int (((b.getD i 0).toNat : Nat) : Int) u) (fun i v hi ⟨c, u, hc, hv⟩ => ⟨u, by rw [hv, Array.getD_eq_getD_getElem?, hc]; rfl⟩)).up4 (c' := 4) (by omega)) (hA'.less (by omega)) (fun i s => ∃ h3 t3 m3 u, s = ⟨h3, g, d, t3, os⟩ ∧ Wk hp L h3 h3 m3 [] ∧ KBw.IsBytesIter h3 I b t1 i ∧ m3 "out" = some (.int ((accF (ds true vs) i : Nat) : Int) u) ∧ m3 "decode" = some (.ref p.q2) ∧ m3 "big" = some (.bool true) ∧ (∃ u, m3 "pad" = some (.int 2 u)) ∧ m3 "bits" = some (.int 64 t2)) ?_ ?_ ?_ ?_
    · rintro i s ⟨h3, t3, m3, u, rfl, _, st, _⟩
      exact st
    · rintro i s s₁ v hi ⟨h3, t3, m3, u, rfl, F, st, m1, m2, m4, ⟨u4, m5⟩, m6⟩ ⟨uv, rfl⟩ st₁ mv
      obtain ⟨h4, t4, rfl⟩ := mv.shaped
      replace F : Wk hp L h4 h4 m3 [] := F.mv mv (by simpa using LI) (by
        intro a ha o e
        have ha : a = I := by simpa using ha
        rw [ha, I0] at e; cases e) (by simp)
      have hacc : accF (ds true vs) i < 2 ^ 120 := by
        have h1 := accF_lt (ds true vs) (fun i => by unfold ds; exact spells_lt S _) i
        have h2 : 64 ^ i ≤ 64 ^ 11 := Nat.pow_le_pow_right (by decide) (by omega)
        omega
      repeat tb_rel
      refine callD (id := "dict.__getitem__") (self := .ref p.dd) ?_ rfl rfl
      repeat tb_rel
      refine And.intro (H.keep F.old).w2 ?_
      refine dec1 (i := i) (H.keep F.old) S (by omega) ?_
      intro _ _
      refine n_add ?_
      intro _ _
      repeat tb_rel
      exact tq_next ⟨_, _, _, _, rfl, F.mark, (let ⟨o, ho, r⟩ := st₁; ⟨o, F.Z I o (Ne.symm LI) ho, r⟩), rfl, m2, m4, ⟨u4, m5⟩, m6⟩
    · rintro s s₁ ⟨h3, t3, m3, u, rfl, F, st, m1, m2, m4, ⟨u4, m5⟩, m6⟩ mv
      obtain ⟨h4, t4, rfl⟩ := mv.shaped
      replace F : Wk hp L h4 h4 m3 [] := F.mv mv (by simpa using LI) (by
        intro a ha o e
        have ha : a = I := by simpa using ha
        rw [ha, I0] at e; cases e) (by simp)
      repeat tb_rel
      refine try_next ?_
      repeat tb_rel
      refine br_is true rfl ?_
      repeat tb_rel
      refine i_ishr (by decide) ?_
      intro _ _
      rw [show (2 : Int) ^ (2 : Int).toNat = ((4 : Nat) : Int) from rfl, fdiv_nat]
      repeat tb_rel
      exact hQ _ _ _ F.old
    · exact ⟨_, _, _, _, rfl, F, ⟨_, hI, rfl, rfl⟩, rfl, rfl, rfl, ⟨_, rfl⟩, rfl⟩
  | false =>
    repeat tb_rel
    refine up hA' (x_revB (F.top X) hb ?_)
    intro h2 _ I D
    have hI := (D.nw _ (List.mem_cons_self ..)).1
    have nI := (D.nw _ (List.mem_cons_self ..)).2
    have kI := keeps_of_mem D
    dsimp only at hI nI
    repeat tb_rel
    refine pyIter_rev (b := b) (t := t1) (k := (b.size : Int) - 1) ⟨_, hI, rfl, rfl⟩ ?_
    have LI := F.neL nI
    have I0 := F.h0 nI
    replace F := (F.kept kI).drop.mark
    refine for_1 (c := 4) (It.revB (w := w) I b t1 11 hb (by decide)) (hA'.less (by omega)) (fun i s => ∃ h3 t3 m3 u, s = ⟨h3, g, d, t3, os⟩ ∧ Wk hp L h3 h3 m3 [] ∧ IsRevB h3 I b t1 (((11 : Nat) : Int) - 1 - i) ∧ m3 "out" = some (.int ((accF (ds false vs) i : Nat) : Int) u) ∧ m3 "decode" = some (.ref p.q2) ∧ m3 "big" = some (.bool false) ∧ (∃ u, m3 "pad" = some (.int 2 u)) ∧ m3 "bits" = some (.int 64 t2)) ?_ ?_ ?_ ?_
    · rintro i s ⟨h3, t3, m3, u, rfl, _, st, _⟩
      exact st
    · rintro i s s₁ v hi ⟨h3, t3, m3, u, rfl, F, st, m1, m2, m4, ⟨u4, m5⟩, m6⟩ ⟨uv, rfl⟩ st₁ mv
      obtain ⟨h4, t4, rfl⟩ := mv.shaped
      replace F : Wk hp L h4 h4 m3 [] := F.mv mv (by simpa using LI) (by
        intro a ha o e
        have ha : a = I := by simpa using ha
        rw [ha, I0] at e; cases e) (by simp)
      have hacc : accF (ds false vs) i < 2 ^ 120 := by
        have h1 := accF_lt (ds false vs) (fun i => by unfold ds; exact spells_lt S _) i
        have h2 : 64 ^ i ≤ 64 ^ 11 := Nat.pow_le_pow_right (by decide) (by omega)
        omega
      repeat tb_rel
      refine callD (id := "dict.__getitem__") (self := .ref p.dd) ?_ rfl rfl
      repeat tb_rel
      refine And.intro (H.keep F.old).w2 ?_
      refine dec1 (i := 11 - 1 - i) (H.keep F.old) S (by omega) ?_
      intro _ _
      refine n_add ?_
      intro _ _
      repeat tb_rel
      exact tq_next ⟨_, _, _, _, rfl, F.mark, (let ⟨o, ho, r⟩ := st₁; ⟨o, F.Z I o (Ne.symm LI) ho, r⟩), rfl, m2, m4, ⟨u4, m5⟩, m6⟩
    · rintro s s₁ ⟨h3, t3, m3, u, rfl, F, st, m1, m2, m4, ⟨u4, m5⟩, m6⟩ mv
      obtain ⟨h4, t4, rfl⟩ := mv.shaped
      replace F : Wk hp L h4 h4 m3 [] := F.mv mv (by simpa using LI) (by
        intro a ha o e
        have ha : a = I := by simpa using ha
        rw [ha, I0] at e; cases e) (by simp)
      repeat tb_rel
      refine try_next ?_
      repeat tb_rel
      refine br_is true rfl ?_
      repeat tb_rel
      refine i_shl (by decide) (by decide) (by decide) ?_
      intro _ _
      repeat tb_rel
      rw [show (1 * 2 ^ Int.toNat 64 - 1 : Int) = ((2 ^ 64 - 1 : Nat) : Int) from by decide, and_mask (accF (ds false vs) 11) 64 _ rfl]
      repeat tb_rel
      exact hQ _ _ _ F.old
    · exact ⟨_, _, _, _, rfl, F, ⟨_, hI, rfl, by rw [hb]; rfl⟩, rfl, rfl, rfl, ⟨_, rfl⟩, rfl⟩

theorem decint64_ok {t1 : Tok} (hA : AOk A 18) (X : Top w hp) (H : Eng hp p e chars big) (hb : b.size = 11) (S : Spells chars b vs)
   (hQ : ∀ h' t' tk, Keeps hp h' → Q (.int (num11 big vs : Int) tk) ⟨h', g, d, t', os⟩) :
   wpAny (model pg w) A (call (.ref 249) [.ref e, .bytes b t1]) Q E ⟨hp, g, d, t, os⟩ := by
  refine call_fn' (n := 16) (binds := [("self", .ref e), ("source", .bytes b t1)]) hA X fn249 (by rfl) (by decide) (by rfl) (locs (by rfl)) ?_
  intro h₁ t₁ L F hA'
  refine s_cons ?_
  repeat tb_rel
  refine MethodCall_ ?_ (by rfl)
  repeat tb_rel
  refine gm_fn (f := 214) (F.top X) (H.keep F.old) (by kernel_rfl) (by kernel_rfl) rfl ?_
  dsimp only
  repeat tb_rel
  refine decint_ok (hA'.less (by omega)) (F.top X) (H.keep F.old) hb S ?_
  lcg_src
  repeat tb_rel
  exact hQ _ _ _ F.old
end
end
section
open Builtin Builtin._codecs in
theorem encodeNarrow_ok (id : String) (c : TextCodec) (self : Value) (s : Str) (hc : ∀ x ∈ s.cps, c.bad x = false) (hb : ∀ x ∈ s.cps, c.bytesOf x = [x.toUInt8]) (hs : s.cps.size ≤ 100000) :
    encodeNarrow id c none self s = pure (s.cps.map (·.toUInt8)) := by
  have hf : Array.findIdx? c.bad (s.cps.extract 0 s.cps.size) = none := by
    rw [Array.extract_size]
    exact Array.findIdx?_eq_none_iff.mpr hc
  have hfold : ∀ (l : List Nat) (acc : Array UInt8), (∀ x ∈ l, c.bytesOf x = [x.toUInt8]) → l.foldl (fun acc y => acc ++ (c.bytesOf y).toArray) acc = acc ++ (l.map (·.toUInt8)).toArray := by
    intro l
    induction l with
    | nil => intro acc _; simp
    | cons x l ih =>
      intro acc h
      rw [List.foldl_cons, h x (List.mem_cons_self ..), ih _ fun y hy => h y (List.mem_cons_of_mem _ hy)]
      simp
  unfold encodeNarrow
  simp only [Std.Legacy.Range.forIn_eq_forIn_range', Std.Legacy.Range.size]
  have hlen : s.length = s.cps.size := rfl
  rw [hlen]
  rcases hsz : s.cps.size with _ | n
  · simp [Array.eq_empty_of_size_eq_zero hsz]
  · have h0 : s.cps[0]? = some (s.cps[0]'(by omega)) := by simp
    have hb0 : c.bad (s.cps[0]'(by omega)) = false := hc _ (by simp)
    rw [show (n + 1 - 0 + 1 - 1) / 1 = n + 1 by omega, List.range'_succ, List.forIn_cons]
    rw [if_neg (by rw [show sizeLine = _ from sizeLine_eq]; decide)]
    simp only [h0, hb0, Bool.not_false, if_true, pure_bind]
    have hx : s.cps.extract 0 (n + 1) = s.cps := by rw [← hsz, Array.extract_size]
    rw [hsz] at hf
    rw [hf, hx]
    have hff : c.bad = c.bad := rfl
    have hout : Array.foldl (fun acc y => acc ++ (c.bytesOf y).toArray) #[] (s.cps.extract 0 (Option.getD none s.cps.size)) = s.cps.map (·.toUInt8) := by
      show Array.foldl (fun acc y => acc ++ (c.bytesOf y).toArray) #[] (s.cps.extract 0 s.cps.size) = _
      rw [Array.extract_size, ← Array.foldl_toList, hfold _ _ (fun x hx => hb x (Array.mem_toList_iff.mp hx))]
      apply Array.ext'
      simp
    rw [hout]
    cases n with
    | zero => rfl
    | succ n =>
      rw [List.range'_succ, List.forIn_cons]
      rw [if_neg (by rw [Array.size_map, show sizeLine = _ from sizeLine_eq]; omega)]
      have hnone : s.cps[0 + Option.getD none s.cps.size]? = none := by
        show s.cps[0 + s.cps.size]? = none
        simp
      simp only [hnone, pure_bind]
open Builtin Builtin._codecs in
theorem road_ascii (id : String) (self : Value) (x : Str) : encodeRoad id self x (Str.ofString "ascii") none = (do mkBytes (← encodeNarrow id asciiCodec none self x)) := by
  first | rfl | kernel_rfl
open Builtin Builtin._codecs in
theorem road_latin (id : String) (self : Value) (x : Str) : encodeRoad id self x (Str.ofString "latin-1") none = (do mkBytes (← encodeNarrow id latin1Codec none self x)) := by
  first | rfl | kernel_rfl
open Builtin Builtin._codecs in
theorem tree_ascii (x : Str) (t u : Tok) : «str.encode» ⟨[.str x t, .str (Str.ofString "ascii") u], []⟩ = (do ret (← encodeRoad "str.encode" (.str x t) x (Str.ofString "ascii") none)) := by kernel_rfl
open Builtin Builtin._codecs in
theorem tree_latin (x : Str) (t u : Tok) : «str.encode» ⟨[.str x t, .str (Str.ofString "latin-1") u], []⟩ = (do ret (← encodeRoad "str.encode" (.str x t) x (Str.ofString "latin-1") none)) := by kernel_rfl
/-- a text all of whose letters lie under 128 -/
def Asc (x : Str) : Prop := ∀ c ∈ x.cps, c < 128
def bytesOf (x : Str) : Array UInt8 := x.cps.map (·.toUInt8)
section
variable {w : World} {A : Around} {E : Value → Shared → Prop} {Q : Value → Shared → Prop} {hp : Heap} {g : Array GenState} {d : Drawn} {t : Nat} {os : OsState}
theorem enc_ascii {x : Str} {t1 t2 : Tok} (hx : Asc x) (hs : x.cps.size ≤ 100000) (k : ∀ u t, Q (.bytes (bytesOf x) u) ⟨hp, g, d, t, os⟩) :
    wpAny (model pg w) A (call (.builtin "str.encode") [.str x t1, .str "ascii" t2]) Q E ⟨hp, g, d, t, os⟩ := by
  refine wpAny_call_entry PySem.F.slot_str_encode (typeIs_str _ x t1) PySem.F.entry_str_encode ?_ (PySem.F.args_str_encode_2 _ _)
  rw [tree_ascii, road_ascii, encodeNarrow_ok _ _ _ _ (fun c hc => decide_eq_false (by have := hx c hc; omega)) (fun _ _ => rfl) hs]
  refine wpAny_bind (wpAny_bind (wpAny_pure (wpAny_mkBytes (wpAny_pure ⟨_, rfl, k _ _⟩) (by rw [Array.size_map, sizeLine_eq]; omega))))
theorem enc_latin {x : Str} {t1 t2 : Tok} (hx : Asc x) (hs : x.cps.size ≤ 100000) (k : ∀ u t, Q (.bytes (bytesOf x) u) ⟨hp, g, d, t, os⟩) :
    wpAny (model pg w) A (call (.builtin "str.encode") [.str x t1, .str "latin-1" t2]) Q E ⟨hp, g, d, t, os⟩ := by
  refine wpAny_call_entry PySem.F.slot_str_encode (typeIs_str _ x t1) PySem.F.entry_str_encode ?_ (PySem.F.args_str_encode_2 _ _)
  rw [tree_latin, road_latin, encodeNarrow_ok _ _ _ _ (fun c hc => decide_eq_false (by have := hx c hc; omega)) (fun _ _ => rfl) hs]
  refine wpAny_bind (wpAny_bind (wpAny_pure (wpAny_mkBytes (wpAny_pure ⟨_, rfl, k _ _⟩) (by rw [Array.size_map, sizeLine_eq]; omega))))
end
end
section
theorem forIn_push {σ : Type} (n : Nat) (v : Nat → Nat) (f : Nat → (Nat × Array Nat × σ) → Sem (ForInStep (Nat × Array Nat × σ))) (st : σ) (hf : ∀ x p out, p < n → out.size = p → f x (p, out, st) = pure (.yield (p + 1, out.push (v p), st))) :
    ∀ (k a p : Nat) (out : Array Nat), p + k = n → out.size = p → forIn (List.range' a k) (p, out, st) f = (pure (n, out ++ ((List.range' p k).map v).toArray, st) : Sem _)
  | 0, a, p, out, e, _ => by
    obtain rfl : p = n := e
    simp
  | k + 1, a, p, out, e, ho => by
    rw [List.range'_succ, List.forIn_cons, hf a p out (by omega) ho, pure_bind]
    dsimp only
    rw [forIn_push n v f st hf k (a + 1) (p + 1) (out.push (v p)) (by omega) (by rw [Array.size_push, ho])]
    rw [List.range'_succ, List.map_cons]
    simp
open Builtin Builtin._codecs in
theorem runDecoder_ok (id : String) (d : Decoder) (b : Array UInt8) (hd : ∀ p < b.size, d.find true b p = .char (b.getD p 0).toNat (p + 1)) (hs : b.size ≤ 100000) :
    runDecoder id d none true b 0 [] = pure (b.map (·.toNat), b.size) := by
  unfold runDecoder
  simp only [Std.Legacy.Range.forIn_eq_forIn_range', Std.Legacy.Range.size]
  rw [forIn_push b.size (fun p => (b.getD p 0).toNat) _ _ ?_ _ 0 0 #[] (by omega) rfl]
  · rw [pure_bind]
    dsimp only
    congr 2
    apply Array.ext_getElem?
    intro i
    rcases Nat.lt_or_ge i b.size with h | h
    · simp [h, Array.getD]
    · simp [h]
  · intro x p out hp ho
    dsimp only
    rw [if_neg (by rw [ho, show sizeLine = _ from sizeLine_eq]; omega), if_neg (by omega), hd p hp]
    simp [Found.char]
section
open Builtin
variable {b : Array UInt8} {c : UInt8} {cs : List UInt8} {t u : Tok}
theorem road_dascii {id : String} : _codecs.decodeRoad id b (PySem.Str.ofString "ascii") none [] = (_codecs.runDecoder id _codecs.asciiDecoder none true b 0 [] >>= fun r => mkStr ⟨r.1⟩) := by kernel_rfl
theorem road_dlatin {id : String} : _codecs.decodeRoad id b (PySem.Str.ofString "latin-1") none [] = (_codecs.runDecoder id _codecs.latin1Decoder none true b 0 [] >>= fun r => mkStr ⟨r.1⟩) := by kernel_rfl
theorem tree_dascii : «bytes.decode» ⟨[.bytes (c :: cs).toArray t, .str (PySem.Str.ofString "ascii") u], []⟩ = (mkStr (PySem.Str.ofString "utf-8") >>= fun _ => mkStr (PySem.Str.ofString "ascii") >>= fun e => mkStr (PySem.Str.ofString "bytes.decode") >>= fun d =>
    call (.builtin "_codecs.decode.text") [.bytes (c :: cs).toArray t, e, .none, d] >>= fun v => ret v) := by kernel_rfl
theorem tree_dlatin : «bytes.decode» ⟨[.bytes (c :: cs).toArray t, .str (PySem.Str.ofString "latin-1") u], []⟩ = (mkStr (PySem.Str.ofString "utf-8") >>= fun _ => mkStr (PySem.Str.ofString "latin-1") >>= fun e => mkStr (PySem.Str.ofString "bytes.decode") >>= fun d =>
    call (.builtin "_codecs.decode.text") [.bytes (c :: cs).toArray t, e, .none, d] >>= fun v => ret v) := by kernel_rfl

variable {w : World} {A : Around} {E : Value → Shared → Prop} {Q : Value → Shared → Prop} {s : Shared}
def strOf (b : Array UInt8) : Str := ⟨b.map (·.toNat)⟩
theorem text_ok {enc : Str} {t1 t2 : Tok} (d : _codecs.Decoder) (hr : ∀ id, _codecs.decodeRoad id b enc none [] = (_codecs.runDecoder id d none true b 0 [] >>= fun r => mkStr ⟨r.1⟩))
    (hd : ∀ p < b.size, d.find true b p = .char (b.getD p 0).toNat (p + 1)) (hs : b.size ≤ 100000) (k : ∀ u t, Q (.str (strOf b) u) { s with toks := t }) :
    wpAny (model pg w) A (call (.builtin "_codecs.decode.text") [.bytes b t, .str enc t1, .none, .str (PySem.Str.ofString "bytes.decode") t2]) Q E s := by
  refine Calls.call_function_entry KBd.kind_text KBd.plain_text KBd.entry_text (KBd.args_text _ _ _ _) ?_
  show wpAny _ _ (Bytes.bytesLike _ (.bytes b t) >>= fun r => _) _ _ s
  refine wpAny_bind (wpAny_of_eq KBd.like_eq ?_)
  refine wpAny_bind (wpAny_of_eq KBd.held_eq ?_)
  show wpAny _ _ (_codecs.decodeRoad _ b enc none [] >>= fun v => _) _ _ s
  rw [hr, runDecoder_ok _ d b hd hs]
  refine wpAny_bind (wpAny_bind (wpAny_pure ?_))
  exact wpAny_mkStr (wpAny_pure ⟨_, rfl, k _ _⟩) (by show (b.map (·.toNat)).size ≤ sizeLine; rw [Array.size_map, sizeLine_eq]; omega)

theorem args_dec2 (a b : Value) : argsOk "bytes.decode" ⟨[a, b], []⟩ := by unfold argsOk; kernel_rfl
theorem dec_ascii {t1 t2 : Tok} (hb : 0 < b.size) (hs : b.size ≤ 100000) (ha : ∀ p < b.size, (b.getD p 0).toNat < 128) (k : ∀ u t, Q (.str (strOf b) u) { s with toks := t }) :
    wpAny (model pg w) A (call (.builtin "bytes.decode") [.bytes b t1, .str (PySem.Str.ofString "ascii") t2]) Q E s := by
  obtain ⟨l⟩ := b
  cases l with
  | nil => cases hb
  | cons c cs =>
    refine wpAny_call_entry FB.slot_bytes_decode (typeIs_bytes _ _ t1) FB.entry_bytes_decode ?_ (args_dec2 _ _)
    rw [tree_dascii]
    refine wpAny_bind (wpAny_mkStr ?_ (by decide))
    refine wpAny_bind (wpAny_mkStr ?_ (by decide))
    refine wpAny_bind (wpAny_mkStr ?_ (by decide))
    refine wpAny_bind (text_ok _codecs.asciiDecoder (fun _ => road_dascii) (fun p hp => if_pos (ha p hp)) hs fun u t => wpAny_pure ⟨_, rfl, k _ _⟩)
theorem dec_latin {t1 t2 : Tok} (hb : 0 < b.size) (hs : b.size ≤ 100000) (k : ∀ u t, Q (.str (strOf b) u) { s with toks := t }) :
    wpAny (model pg w) A (call (.builtin "bytes.decode") [.bytes b t1, .str (PySem.Str.ofString "latin-1") t2]) Q E s := by
  obtain ⟨l⟩ := b
  cases l with
  | nil => cases hb
  | cons c cs =>
    refine wpAny_call_entry FB.slot_bytes_decode (typeIs_bytes _ _ t1) FB.entry_bytes_decode ?_ (args_dec2 _ _)
    rw [tree_dlatin]
    refine wpAny_bind (wpAny_mkStr ?_ (by decide))
    refine wpAny_bind (wpAny_mkStr ?_ (by decide))
    refine wpAny_bind (wpAny_mkStr ?_ (by decide))
    refine wpAny_bind (text_ok _codecs.latin1Decoder (fun _ => road_dlatin) (fun p hp => rfl) hs fun u t => wpAny_pure ⟨_, rfl, k _ _⟩)
end
end
section
def CodeQ (Q : Value → Shared → Prop) (E : Value → Shared → Prop) : Result → Shared → Prop := fun r s' => match r with | .ok (.ret v) => Q v s' | .ok _ => False | .error e => E e s'
theorem code_fn' {w : World} {A : Around} {n : Nat} {E : Value → Shared → Prop} {h : Heap} {g : Array GenState} {d : Drawn} {t : Nat} {os : OsState} {Q : Value → Shared → Prop} {f : Addr} {fd : FuncData} {body : List Stmt} {vals : List Value} {binds : List (Str × Value)} (hA : AOk A (n + 2)) (X : Top w h) (FA : FnAt f fd body)
    (hbind : bindArgs fd ⟨vals, []⟩ = pure binds) (hcell : ∀ x ∈ fd.scope.names, x.2 ≠ .cell) (hgen : fd.scope.isGenerator = false) (hloc : ∀ x ∈ binds, fd.scope.names.lookup x.1 = some .local)
    (k : ∀ h₁ t₁ L, Wk h L h₁ h₁ (fun x => binds.reverse.lookup x) [] → AOk (A.deeper (envX fd.qualname fd.scope L f fd.code [])) n →
      wpAny (model pg w) (A.deeper (envX fd.qualname fd.scope L f fd.code [])) (execs body (envX fd.qualname fd.scope L f fd.code [])) (RetQ Q) (fun _ _ => False) ⟨h₁, g, d, t₁, os⟩) :
    codeAny (model pg w) A (.call (.ref f) ⟨vals, []⟩) (CodeQ Q E) ⟨h, g, d, t, os⟩ := by
  refine codeAny_call_def (binds := binds) hA.room (X f _ (FA.at' w.params)) rfl (noLimit X) (codeRec_of X (FA.code w.params)) FA.body (BindsTo.of_eq hbind) hcell hloc ?_ FA.nco hgen FA.kind
  intro h₀ hns hk
  rw [FA.env]
  refine wpAny_mono (k h₀ _ h.objs.size ⟨⟨hns, hk, Nat.le_refl _⟩, News.nil, fun _ _ _ e => e⟩ ((hA.less (by omega)).deeper _)) (fun fl s' q => q) (fun _ _ q => q.elim)
section
variable {w : World} {A : Around} {n : Nat} {E : Value → Shared → Prop} {Q : Value → Shared → Prop} {hp : Heap} {g : Array GenState} {d : Drawn} {t : Nat} {os : OsState} {p : EngP} {e : Addr} {chars b : Array UInt8} {big : Bool} {vs : List Nat}
theorem cm_code (hA : AOk A 6) (X : Top w hp) (H : Eng hp p e chars big)
   (hQ : ∀ h' t' tk, Keeps hp h' → Q (.str (strOf chars) tk) ⟨h', g, d, t', os⟩) :
   codeAny (model pg w) A (.call (.ref 113) ⟨[.ref e], []⟩) (CodeQ Q E) ⟨hp, g, d, t, os⟩ := by
  refine code_fn' (n := 4) (binds := [("self", .ref e)]) hA X fn113 (by rfl) (by decide) (by rfl) (locs (by rfl)) ?_
  intro h₁ t₁ L F hA'
  refine s_cons ?_
  repeat tb_rel
  refine MethodCall_ ?_ (by rfl)
  repeat tb_rel
  refine ga_bytemap (F.top X) (H.keep F.old) ?_
  intro _ _
  refine KBd.method ?_
  dsimp only
  refine callWith_method1 ?_
  repeat tb_rel
  refine dec_latin (by rw [H.size]; decide) (by rw [H.size]; decide) ?_
  intro _ _
  repeat tb_rel
  exact hQ _ _ _ F.old
theorem ga_charmap {x : Bool} (hA : AOk A 8) (X : Top w hp) (H : Eng hp p e chars big) (hQ : ∀ h' t' tk, Keeps hp h' → Q (.str (strOf chars) tk) ⟨h', g, d, t', os⟩) :
    wpAny (model pg w) A (getAttr (.ref e) "charmap" x) Q E ⟨hp, g, d, t, os⟩ := by
  refine get_bind (g := .builtin "property.__get__") (a := .ref 114) X H.inst (e_ga _) (by kernel_rfl) (e_gn _) ?_
  refine wpAny_call (prop_get (fget := 113) (rest := [.none, .none, .none, .str "charmap" 336, .bool false]) X ?_ ?_)
  · kernel_rfl
  · exact cm_code (AOk.in1 (hA.less (by omega))) X H fun h' t' tk k => wpAny_pure (hQ h' t' tk k)
end
end
section
theorem cyc (l : List UInt8) (k : Nat) (h0 : l ≠ []) (hl : l.length ≤ 3) (hk0 : 1 ≤ k) (hk : k ≤ 6) : cutL (List.replicate (1 + ((k : Int) - 1).fdiv (l.length : Int)).toNat l).flatten none (some (k : Int)) = cycle l k := by
  have hk' : k = 1 ∨ k = 2 ∨ k = 3 ∨ k = 4 ∨ k = 5 ∨ k = 6 := by omega
  match l, h0, hl with
  | [a], _, _ => rcases hk' with rfl | rfl | rfl | rfl | rfl | rfl <;> kernel_rfl
  | [a, b], _, _ => rcases hk' with rfl | rfl | rfl | rfl | rfl | rfl <;> kernel_rfl
  | [a, b, c], _, _ => rcases hk' with rfl | rfl | rfl | rfl | rfl | rfl <;> kernel_rfl
  | a :: b :: c :: d :: r, _, h => simp at h
theorem repeat_ok {w : World} {A : Around} {E : Value → Shared → Prop} {Q : Value → Shared → Prop} {hp : Heap} {g : Array GenState} {d : Drawn} {t : Nat} {os : OsState} {l : List UInt8} {k : Nat} {t1 t2 : Tok} (hA : AOk A 8) (X : Top w hp) (h0 : l ≠ []) (hl : l.length ≤ 3) (hk0 : 1 ≤ k) (hk : k ≤ 6)
   (hQ : ∀ h' t' tk, Keeps hp h' → Q (.bytes (cycle l k).toArray tk) ⟨h', g, d, t', os⟩) :
   wpAny (model pg w) A (call (.ref 69) [.bytes l.toArray t1, .int (k : Int) t2]) Q E ⟨hp, g, d, t, os⟩ :=
  repeat_raw hA X h0 hl hk0 hk (by rw [cyc l k h0 hl hk0 hk]; exact hQ)
end
section
theorem It.enum {w : World} {c : Nat} {b : Builtin} {T id : String} {e it : Addr} {fp wr : List Addr} {gr : List Nat} {n : Nat} {P : Nat → Value → Prop} {St : Nat → Shared → Prop} (W : It w c b T id it fp wr gr n P St) (ef : e ∉ fp) :
    ItT w (c + 1) Builtin.«enumerate.__next__» "enumerate" "enumerate.__next__" e ([e] ++ fp) ([e] ++ wr) gr n (fun i x y => (∃ u, x = .int (i : Int) u) ∧ P i y)
      (fun i s => (∃ old, IsEnum s.heap e it (i : Int) old) ∧ St i s) (fun i T s => (∃ item, IsEnumOut s.heap e it ((i : Int) + 1) item T) ∧ St (i + 1) s) where
  sub := fun b hb => by
    simp only [List.cons_append, List.nil_append, List.mem_cons] at hb ⊢
    exact hb.imp_right (W.sub b)
  slot := F.slot_enumerate_next
  entry := F.entry_enumerate_next
  args := F.args_enumerate_next_1 _
  live := fun i s st b hb => by
    simp only [List.cons_append, List.nil_append, List.mem_cons] at hb
    obtain ⟨⟨old, he⟩, h1⟩ := st
    rcases hb with rfl | hb
    · exact ⟨_, he⟩
    · exact W.live _ _ h1 b hb
  ty := fun i s st => by obtain ⟨⟨old, he⟩, h1⟩ := st; exact ⟨_, he, rfl⟩
  frame := fun i s s' st hk hj => by
    obtain ⟨⟨old, he⟩, h1⟩ := st
    exact ⟨⟨old, hk e (by simp) _ he⟩, W.frame _ _ _ h1 (fun b hb => hk b (by simp [hb])) hj⟩
  item := fun A hA i s Q E hi st hQ => by
    obtain ⟨⟨old, he⟩, h1⟩ := st
    show wpAny _ _ (field (.ref e) 2 >>= _) _ _ _
    refine wpAny_bind (wpAny_field he rfl (x := .ref it) rfl ?_)
    refine wpAny_bind (W.nx_item hA hi h1 fun x s₁ px h1₁ m₁ => ?_)
    have he₁ : IsEnum s₁.heap e it i old := m₁.keep e _ (fun q => ef (W.sub _ q)) he
    replace m₁ := m₁.mono (wr' := [e] ++ wr) (gr' := gr) (by intro b hb; simp [hb]) (fun _ h => h)
    show wpAny _ _ (field (.ref e) 3 >>= _) _ _ _
    refine wpAny_bind (wpAny_field he₁ rfl (x := rawInt i) rfl ?_)
    show wpAny _ _ (field (.ref e) 4 >>= _) _ _ _
    refine wpAny_bind (wpAny_field he₁ rfl (x := .none) rfl ?_)
    show wpAny _ _ (mkInt i >>= _) _ _ _
    refine wpAny_bind (wpAny_mkInt ?_)
    show wpAny _ _ (setField (.ref e) 3 (rawInt ((i : Int) + 1)) >>= _) _ _ _
    refine wpAny_bind (wpAny_setField_rec he₁ (by simp) fun h₂ he₂ hs₂ => ?_)
    replace he₂ : IsEnum h₂ e it ((i : Int) + 1) old := he₂
    show wpAny _ _ (setField (.ref e) 4 .none >>= _) _ _ _
    refine wpAny_bind (wpAny_setField_rec he₂ (by simp) fun h₃ he₃ hs₃ => ?_)
    replace he₃ : IsEnum h₃ e it ((i : Int) + 1) old := he₃
    refine wpAny_bind (wpAny_newTuple ?_)
    have he₄ : IsEnum (h₃.push { cls := .type "tuple", data := .seq #[.int i s₁.toks, x] }) e it ((i : Int) + 1) old := Heap.get?_push_of_some _ he₃
    show wpAny _ _ (Builtin.SmallTypes.ownedTupleIsFree (.ref e) >>= _) _ _ _
    refine wpAny_bind ?_
    unfold Builtin.SmallTypes.ownedTupleIsFree
    refine wpAny_bind (wpAny_field he₄ rfl (x := .none) rfl (wpAny_pure ?_))
    simp only [if_true]
    refine wpAny_bind (wpAny_rule ?_)
    show wpAny _ _ (field (.ref e) 5 >>= _) _ _ _
    refine wpAny_bind (wpAny_field he₄ rfl (x := old) rfl ?_)
    show wpAny _ _ (setField (.ref e) 5 x >>= _) _ _ _
    refine wpAny_bind (wpAny_setField_rec he₄ (by simp) fun h₅ he₅ hs₅ => ?_)
    replace he₅ : IsEnum h₅ e it ((i : Int) + 1) x := he₅
    show wpAny _ _ (Builtin.SmallTypes.ownedTupleHandOut (.ref e) (.ref h₃.objs.size) >>= _) _ _ _
    refine wpAny_bind ?_
    unfold Builtin.SmallTypes.ownedTupleHandOut
    refine wpAny_bind (wpAny_setField_rec he₅ (by simp) fun h₆ he₆ hs₆ => ?_)
    replace he₆ : IsEnumOut h₆ e it ((i : Int) + 1) x h₃.objs.size := he₆
    refine wpAny_setField_rec he₆ (by simp) fun h₇ he₇ hs₇ => ?_
    replace he₇ : IsEnumOut h₇ e it ((i : Int) + 1) x h₃.objs.size := he₇
    refine wpAny_bind (wpAny_letGo ?_)
    have elt : e < h₃.objs.size := Heap.lt_size he₃
    have up : ∀ c o, c ≠ e → s₁.heap.get? c = some o → h₇.get? c = some o := fun c o q x => hs₇.extBut _ _ q (hs₆.extBut _ _ q (hs₅.extBut _ _ q (Heap.get?_push_of_some _ (hs₃.extBut _ _ q (hs₂.extBut _ _ q x)))))
    have hT : IsPair h₇ h₃.objs.size (.int i s₁.toks) x := hs₇.extBut _ _ (Nat.ne_of_gt elt) (hs₆.extBut _ _ (Nat.ne_of_gt elt) (hs₅.extBut _ _ (Nat.ne_of_gt elt) (Heap.get?_push_size _ rfl)))
    refine wpAny_pure (hQ h₃.objs.size (.int i s₁.toks) x _ ⟨⟨_, rfl⟩, px⟩ hT ?_ ⟨⟨x, he₇⟩, ?_⟩ (m₁.trans ⟨fun b o n q => up b o (fun z => n (by simp [z])) q, fun b o q => if z : b = e then ⟨_, z ▸ he₇⟩ else ⟨o, up b o z q⟩, rfl, fun _ _ => rfl, rfl, rfl, fun x => x⟩))
    · cases q : s.heap.get? h₃.objs.size with
      | none => rfl
      | some o =>
        obtain ⟨o', q'⟩ := m₁.live _ _ q
        have := Heap.lt_size q'
        have hz : h₃.objs.size = s₁.heap.objs.size := by rw [hs₃.1, hs₂.1]
        exact absurd (hz ▸ this) (Nat.lt_irrefl _)
    · exact W.frame _ _ _ h1₁ (fun b hb o q => up b o (fun z => ef (z ▸ hb)) q) (fun _ _ => rfl)
  go := fun A elts k pos i T s Q E hm hQ => by
    obtain ⟨⟨item, he⟩, h1⟩ := hm
    refine wpAny_letOwnedTupleGo_enum he fun h' he' hs' => hQ _ ⟨⟨item, by have := he'; exact this⟩, W.frame _ _ _ h1 (fun b hb o e' => hs'.extBut b o (fun q => ef (q ▸ hb)) e') (fun _ _ => rfl)⟩ (Mv.of_same hs' (by simp) he')
  done := fun A hA s Q E st hE => by
    obtain ⟨⟨old, he⟩, h1⟩ := st
    show wpAny _ _ (field (.ref e) 2 >>= _) _ _ _
    refine wpAny_bind (wpAny_field he rfl (x := .ref it) rfl ?_)
    refine wpAny_bind (W.nx_done hA h1 fun x s' hx m => hE x s' hx (m.mono (by intro b hb; simp [hb]) (fun _ h => h)))
end
end
section
section
def GRx (wr : List Addr) : GenEnd := fun n s₀ r s₁ => n = 0 ∧ r = .ok .next ∧ Mv wr [] s₀ s₁
/-- where a generator expression stands -/
structure GStx (w : World) (c : Nat) (I : Addr) (g N : Nat) (P : Nat → Value → Prop) (fp wr : List Addr) (i : Nat) (s : Shared) : Prop where
  le : i ≤ N
  gen : s.heap.IsGen I g
  two : s.heap.get? 2 = some ⟨.none, none, .dict #[] 0, #[]⟩
  live : ∀ b ∈ wr, ∃ o, s.heap.get? b = some o
  go : ∃ gs s0, s.gens[g]? = some gs ∧ Still fp s0 s.heap ∧ ∀ s'' : Shared, Still fp s0 s''.heap → gs.Goes (model pg w) (AN c) (GRx wr) (GY N P fp wr) (N - i) (.send .none) s''
theorem It.genx {w : World} {c : Nat} (hc : c ≤ 50) {I : Addr} {g N : Nat} {P : Nat → Value → Prop} {fp wr : List Addr} (hsub : ∀ b ∈ wr, b ∈ fp) (h2 : 2 ∈ fp) (hI : I ∈ fp) (w2 : 2 ∉ wr) (wI : I ∉ wr) :
    It w c Builtin.«generator.__next__» "generator" "generator.__next__" I fp wr [g] N P (GStx w c I g N P fp wr) where
  sub := hsub
  slot := slot_gen_next
  entry := entry_gen_next
  args := args_gen_next _
  live := fun i s st => st.live
  ty := fun i s st => st.gen.typeIs
  frame := fun i s s' st hk hj => by
    refine ⟨st.le, ?_, hk 2 h2 _ st.two, fun b hb => ?_, ?_⟩
    · obtain ⟨o, nm, qn, ho, r⟩ := st.gen; exact ⟨o, nm, qn, hk I hI _ ho, r⟩
    · obtain ⟨o, e⟩ := st.live b hb; exact ⟨o, hk b (hsub b hb) o e⟩
    · obtain ⟨gs, s0, e, q, k⟩ := st.go
      exact ⟨gs, s0, (hj g (by simp)).trans e, q.trans hk, k⟩
  item := fun A hA i s Q E hi st hQ => by
    refine upN hA ?_
    obtain ⟨gs, s0, hgs, hs0, hk⟩ := st.go
    have hgo := hk (s.setGen g .running) hs0
    show wpAny _ _ (Builtin.Generator.genWake (.ref I) (.send .none)) _ _ s
    unfold Builtin.Generator.genWake
    refine wpAny_bind (wpAny_holding (wpAny_genNumber st.gen (wpAny_bind (wpAny_genState hgs ?_))))
    have fin : ∀ {α : Type} {k : GenResult → Sem Fin}, (∀ v s₁, Q (.done (.ret v)) s₁ → wpAny (model pg w) (AN c) (k (.yielded v)) Q E s₁) → wpAny (model pg w) (AN c) (.resume g (.send .none) [] k) Q E s := by
      intro _ k hkk
      refine wpAny_resumeQ hgs hgo (fun x s₁ hx => ?_) (fun v s₁ gs' hgb hv => ?_)
      · exact absurd hx.1 (by omega)
      · obtain ⟨i', e, hp, mv, kap⟩ := hv
        obtain rfl : i' = i := by omega
        refine hkk v _ (hQ v _ hp ?_ (mv.setGen hgb))
        refine ⟨by omega, ?_, ?_, ?_, ?_⟩
        · obtain ⟨o, nm, qn, ho, r⟩ := st.gen; exact ⟨o, nm, qn, mv.keep I _ wI ho, r⟩
        · exact mv.keep 2 _ w2 st.two
        · intro b hb; obtain ⟨o, e⟩ := st.live b hb; exact mv.live b o e
        · refine ⟨gs', s₁.heap, ?_, Still.refl, fun s'' hs => ?_⟩
          · have : g < s₁.gens.size := by
              have h1 := mv.gsz
              have h3 := (Array.getElem?_eq_some_iff.mp hgs).1
              rw [h1]
              show g < (s.gens.setIfInBounds g .running).size
              rw [Array.size_setIfInBounds]; exact h3
            exact setGen_self (gs := s₁.gens[g]) (by rw [Array.getElem?_eq_getElem this])
          · have := kap s'' hs
            generalize N - i' = n at this hi e
            cases n with
            | zero => exact this.elim
            | succ m =>
              rw [show N - (i' + 1) = m by omega]
              exact this
    cases gs with
    | running => exact hgo.elim
    | finished => exact hgo.elim
    | _ =>
      refine wpAny_bind (wpAny_roomToWake (noLimit2 st.two) (by show 600 - c < 1000; omega) ?_)
      show wpAny _ _ (.resume g (.send .none) [] _) _ _ s
      exact fin (α := Unit) fun v s₁ q => wpAny_pure q
  done := fun A hA s Q E st hE => by
    refine upN hA ?_
    obtain ⟨gs, s0, hgs, hs0, hk⟩ := st.go
    have hgo := hk (s.setGen g .running) hs0
    show wpAny _ _ (Builtin.Generator.genWake (.ref I) (.send .none)) _ _ s
    unfold Builtin.Generator.genWake
    refine wpAny_bind (wpAny_holding (wpAny_genNumber st.gen (wpAny_bind (wpAny_genState hgs ?_))))
    cases gs with
    | running => exact hgo.elim
    | finished => exact hgo.elim
    | _ =>
      refine wpAny_bind (wpAny_roomToWake (noLimit2 st.two) (by show 600 - c < 1000; omega) ?_)
      show wpAny _ _ (.resume g (.send .none) [] _) _ _ s
      refine wpAny_resumeQ hgs hgo (fun x s₁ hx => ?_) (fun v s₁ gs' hgb hv => ?_)
      · obtain ⟨_, rfl, mv⟩ := hx
        show wpAny _ _ (newExc (.type "StopIteration") [] >>= _) _ _ _
        refine wpAny_bind ?_
        simp only [newExc, newTuple]
        refine wpAny_bind (wpAny_newObj_type ?_ (by size_fits))
        refine wpAny_bind (m := firstArgMember _ _) (wpAny_of_eq (a := Value.none) (by first | rfl | (simp only [firstArgMember]; rfl)) ?_)
        refine wpAny_newObj_type ?_ (by size_fits)
        simp only [raiseNew]
        refine wpAny_bind (wpAny_bind (wpAny_handled ?_))
        refine wpAny_throw ?_
        refine hE _ _ ⟨_, Heap.get?_push_size _ rfl, rfl⟩ ((mv.setGen (y := .finished) rfl).trans ?_)
        exact (Mv.of_keeps (s := s₁.setGen g .finished) (fun b o e => Heap.get?_push_of_some _ (Heap.get?_push_of_some _ e)))
      · obtain ⟨i', e, _, _, kap⟩ := hv
        have := kap s₁ Still.refl
        rw [Nat.sub_self] at this
        exact this.elim
theorem passing_at {pz : Nat → Bool} {n₀ i : Nat} (h : i < n₀) (hp : pz i = true) : (passing pz n₀ 0)[(passing pz n₀ 0).length - (passing pz n₀ (i + 1)).length - 1]? = some i ∧ (passing pz n₀ 0).length - (passing pz n₀ (i + 1)).length - 1 + ((passing pz n₀ (i + 1)).length + 1) = (passing pz n₀ 0).length := by
  have e := passing_here h hp
  have h2 : (passing pz n₀ 0).length - 1 - (passing pz n₀ (i + 1)).length < (passing pz n₀ 0).length := by
    have := List.getElem?_eq_some_iff.mp e; exact this.1
  have e3 : passing pz n₀ 0 = ((List.range n₀).take i).filter pz ++ i :: passing pz n₀ (i + 1) := by
    rw [← passing_true h hp]; unfold passing; rw [List.drop_zero, ← List.filter_append, List.take_append_drop]
  have h3 : (passing pz n₀ (i + 1)).length + 1 ≤ (passing pz n₀ 0).length := by
    rw [e3, List.length_append, List.length_cons]; omega
  constructor
  · rw [show (passing pz n₀ 0).length - (passing pz n₀ (i + 1)).length - 1 = (passing pz n₀ 0).length - 1 - (passing pz n₀ (i + 1)).length by omega]; exact e
  · omega
/-- what a generator expression hands out -/
def xP (pz : Nat → Bool) (n : Nat) (F : Nat → Value → Prop) : Nat → Value → Prop := fun j v => ∃ i, (passing pz n 0)[j]? = some i ∧ i < n ∧ pz i = true ∧ F i v
section
variable {w : World} {A : Around} {c cc : Nat} {b : Builtin} {T id : String} {I : Addr} {fp0 wr0 fp wr : List Addr} {n : Nat} {P : Nat → Value → Prop} {P2 : Nat → Value → Value → Prop} {St : Nat → Shared → Prop} {Mid : Nat → Addr → Shared → Prop} {news : List (Addr × Obj)} {cenv : Env} {C : Addr}
theorem seg_gl1 {elt iter : PySem.Expr} {x : Str} {px pos : Pos} {scope : Scope} (W : It w c b T id I fp0 wr0 [] n P St) (hA' : AOk (A.over (.compLoop (.GeneratorExp elt [⟨.Name x px, iter, [], 0⟩] scope pos) 0 (.ref I) .none cenv) []) (c + cc + 1)) (hloc : cenv.locals = C) (hx : cenv.kindOf x = some .local) (hk : cenv.scope.kind = .function)
    (hco : cenv.scope.isCoroutine = false) (hC0 : C ∉ fp0) (hfp : ∀ a ∈ fp0, a ∈ fp) (hCf : C ∈ fp) (hw0 : ∀ a ∈ wr0, a ∈ wr) (hCw : C ∈ wr) (hn : ∀ p ∈ news, p.1 ∈ fp) (hnw : ∀ p ∈ news, p.1 ∉ wr) (F : Nat → Value → Prop)
    (hel : ∀ A' i v h g d t os m, AOk A' cc → i < n → P i v → Wk hE C h h m news → m x = some v → wpAny (model pg w) A' (eval elt cenv) (fun y s' => F i y ∧ ∃ h' t', s' = ⟨h', g, d, t', os⟩ ∧ Keeps h h') (fun _ _ => False) ⟨h, g, d, t, os⟩) :
    ∀ (k i : Nat) (s₀ s : Shared) (m : Str → Option Value), n - i = k → i ≤ n → St i s → Mv wr [] s₀ s → Wk hE C s.heap s.heap m news →
      Seg (model pg w) A (GRx wr) (GY n F fp wr) (n - i) s₀ (.compLoop (.GeneratorExp elt [⟨.Name x px, iter, [], 0⟩] scope pos) 0 (.ref I) .none cenv)
        ((model pg w).den (.compLoop (.GeneratorExp elt [⟨.Name x px, iter, [], 0⟩] scope pos) 0 (.ref I) .none cenv)) [] s := by
  intro k
  induction k with
  | zero =>
    intro i s₀ s m hk' hi hst hmv F0
    have hin : i = n := by omega
    subst hin
    show Seg _ A _ _ _ s₀ _ ((compTurn (.GeneratorExp elt [⟨.Name x px, iter, [], 0⟩] scope pos) 0 (.ref I) .none cenv).onRaise (leaving cenv)) [] s
    rw [compTurn_gen, Sem.onRaise_eq_wrap]
    refine seg_bind_wrap (wpAny_standAt ?_)
    refine seg_bind_wrap (W.py_done (hA'.less (by omega)) hst fun s' mv => ?_)
    exact seg_end (.ok .next) ⟨by omega, rfl, hmv.trans (mv.mono hw0 (fun _ h => h))⟩
  | succ k ih =>
    intro i s₀ s m hk' hi hst hmv F0
    have hlt : i < n := by omega
    show Seg _ A _ _ _ s₀ _ ((compTurn (.GeneratorExp elt [⟨.Name x px, iter, [], 0⟩] scope pos) 0 (.ref I) .none cenv).onRaise (leaving cenv)) [] s
    rw [compTurn_gen, Sem.onRaise_eq_wrap]
    refine seg_bind_wrap (wpAny_standAt ?_)
    refine seg_bind_wrap (W.py_item (hA'.less (by omega)) hlt hst fun v s₁ hPv hst₁ mv₁ => ?_)
    refine seg_bind_wrap (wpAny_of_eq (rfl : letOwnedTupleGo (.Name x px) (.ref I) v = pure ()) ?_)
    have F1 : Wk hE C s₁.heap s₁.heap m news := F0.mv mv₁ (fun q => hC0 (W.sub _ q)) (fun a _ o e => absurd (Heap.lt_size e) (Nat.not_lt_zero _)) (fun p hp q => hnw p hp (hw0 _ q))
    obtain ⟨h₁, g₁, d₁, t₁, os₁⟩ := s₁
    refine seg_bind_wrap (wpAny_assign_Name (wstL (L := C) F1 (fun h₂ t₂ F2 => ?_) hloc hk hx))
    have hst₂ : St (i + 1) ⟨h₂, g₁, d₁, t₂, os₁⟩ := W.frame _ _ _ hst₁ (fun b hb o e => F2.Z b o (fun q => hC0 (q ▸ hb)) e) (by simp)
    refine seg_bind_wrap ?_
    rw [List.forIn_nil]
    refine wpAny_pure ?_
    simp only [if_true]
    have hy : ∀ v, yieldOut cenv v = yieldValue v := fun v => by simp only [yieldOut, hco, Bool.false_eq_true, if_false]
    simp only [hy]
    rw [Sem.bind_eq_wrap', Sem.bind_eq_wrap', Sem.wrap_wrap, Sem.wrap_wrap]
    refine seg_wrap (wpAny_mono (hel _ i v _ _ _ _ _ _ (hA'.less (by omega)) hlt hPv F2.mark (by simp)) (fun y s₄ h₄ => ?_) fun _ _ e => e.elim)
    obtain ⟨hFy, h₄, t₄, rfl, hk₄⟩ := h₄
    refine seg_at ?_
    rw [show n - i = (n - (i + 1)) + 1 by omega]
    have mvAll : Mv wr [] s₀ ⟨h₄, g₁, d₁, t₄, os₁⟩ := (hmv.trans (mv₁.mono hw0 (fun _ h => h))).trans ((F2.toMv (t := t₁) (t' := t₂) hCw).trans (Mv.of_keeps (s := ⟨h₂, g₁, d₁, t₂, os₁⟩) hk₄))
    refine seg_yield rfl rfl rfl ⟨i, by omega, hFy, mvAll, fun s'' hal => ?_⟩
    obtain ⟨h5, g5, d5, t5, os5⟩ := s''
    exact seg_again rfl (ih (i + 1) ⟨h5, g5, d5, t5, os5⟩ ⟨h5, g5, d5, t5, os5⟩ _ (by omega) hlt (W.frame _ _ _ hst₂ (fun b hb o e => hal b (hfp b hb) o (hk₄ b o e)) (by simp)) Mv.refl
      ((F2.kept hk₄).still hal hCf hn))
theorem seg_glT {elt iter : PySem.Expr} {x y : Str} {px py pt pos : Pos} {kt : Nat} {scope : Scope} {ifs : List PySem.Expr} (W : ItT w c b T id I fp0 wr0 [] n P2 St Mid) (hA' : AOk (A.over (.compLoop (.GeneratorExp elt [⟨.Tuple [.Name x px, .Name y py] kt pt, iter, ifs, 0⟩] scope pos) 0 (.ref I) .none cenv) []) (c + cc + 1)) (hloc : cenv.locals = C) (hx : cenv.kindOf x = some .local) (hy : cenv.kindOf y = some .local) (hk : cenv.scope.kind = .function)
    (hco : cenv.scope.isCoroutine = false) (hC0 : C ∉ fp0) (hfp : ∀ a ∈ fp0, a ∈ fp) (hCf : C ∈ fp) (hw0 : ∀ a ∈ wr0, a ∈ wr) (hCw : C ∈ wr) (hn : ∀ p ∈ news, p.1 ∈ fp) (hnw : ∀ p ∈ news, p.1 ∉ wr) (pz : Nat → Bool) (F : Nat → Value → Prop)
    (hte : ∀ A' i v1 v2 h g d t os m, AOk A' cc → i < n → P2 i v1 v2 → Wk hE C h h m news → m x = some v1 → m y = some v2 → wpAny (model pg w) A' (forIn ifs true fun c r => if r = true then do let ok ← isTrue c cenv (eval c cenv); pure (ForInStep.yield ok) else pure (ForInStep.yield r))
      (fun ok s' => ok = pz i ∧ ∃ h' t', s' = ⟨h', g, d, t', os⟩ ∧ Keeps h h') (fun _ _ => False) ⟨h, g, d, t, os⟩)
    (hel : ∀ A' i v1 v2 h g d t os m, AOk A' cc → i < n → pz i = true → P2 i v1 v2 → Wk hE C h h m news → m x = some v1 → m y = some v2 → wpAny (model pg w) A' (eval elt cenv) (fun y s' => F i y ∧ ∃ h' t', s' = ⟨h', g, d, t', os⟩ ∧ Keeps h h') (fun _ _ => False) ⟨h, g, d, t, os⟩) (hxy : x ≠ y) :
    ∀ (k i : Nat) (s₀ s : Shared) (m : Str → Option Value), n - i = k → i ≤ n → St i s → Mv wr [] s₀ s → Wk hE C s.heap s.heap m news →
      Seg (model pg w) A (GRx wr) (GY (passing pz n 0).length (xP pz n F) fp wr) (passing pz n i).length s₀ (.compLoop (.GeneratorExp elt [⟨.Tuple [.Name x px, .Name y py] kt pt, iter, ifs, 0⟩] scope pos) 0 (.ref I) .none cenv)
        ((model pg w).den (.compLoop (.GeneratorExp elt [⟨.Tuple [.Name x px, .Name y py] kt pt, iter, ifs, 0⟩] scope pos) 0 (.ref I) .none cenv)) [] s := by
  intro k
  induction k with
  | zero =>
    intro i s₀ s m hk' hi hst hmv F0
    have hin : i = n := by omega
    subst hin
    show Seg _ A _ _ _ s₀ _ ((compTurn (.GeneratorExp elt [⟨.Tuple [.Name x px, .Name y py] kt pt, iter, ifs, 0⟩] scope pos) 0 (.ref I) .none cenv).onRaise (leaving cenv)) [] s
    rw [compTurn_gen, Sem.onRaise_eq_wrap]
    refine seg_bind_wrap (wpAny_standAt ?_)
    refine seg_bind_wrap (W.py_done (hA'.less (by omega)) hst fun s' mv => ?_)
    exact seg_end (.ok .next) ⟨by rw [passing_end]; rfl, rfl, hmv.trans (mv.mono hw0 (fun _ h => h))⟩
  | succ k ih =>
    intro i s₀ s m hk' hi hst hmv F0
    have hlt : i < n := by omega
    show Seg _ A _ _ _ s₀ _ ((compTurn (.GeneratorExp elt [⟨.Tuple [.Name x px, .Name y py] kt pt, iter, ifs, 0⟩] scope pos) 0 (.ref I) .none cenv).onRaise (leaving cenv)) [] s
    rw [compTurn_gen, Sem.onRaise_eq_wrap]
    refine seg_bind_wrap (wpAny_standAt ?_)
    refine seg_bind_wrap (W.py_item (hA'.less (by omega)) hlt hst fun T' v1 v2 s₁ hPv hT' hTn hmid mv₁ => ?_)
    refine seg_bind_wrap (W.go _ _ _ _ _ _ _ _ _ hmid fun s₂ hst₂ mv₂ => ?_)
    have hTw : T' ∉ wr0 := fun q => by obtain ⟨o, e⟩ := W.live _ _ hst T' q; rw [hTn] at e; cases e
    have hT₂ := mv₂.keep _ _ hTw hT'
    have mv12 := mv₁.trans mv₂
    have F1 : Wk hE C s₂.heap s₂.heap m news := F0.mv mv12 (fun q => hC0 (W.sub _ q)) (fun a _ o e => absurd (Heap.lt_size e) (Nat.not_lt_zero _)) (fun p hp q => hnw p hp (hw0 _ q))
    obtain ⟨h₁, g₁, d₁, t₁, os₁⟩ := s₂
    refine seg_bind_wrap (asg2 (L := C) hA'.hd F1 hT₂ (fun h₂ t₂ F2 => ?_) hloc hk hx hy)
    have hst₃ : St (i + 1) ⟨h₂, g₁, d₁, t₂, os₁⟩ := W.frame _ _ _ hst₂ (fun b hb o e => F2.Z b o (fun q => hC0 (q ▸ hb)) e) (by simp)
    refine seg_bind_wrap (wpAny_mono (hte _ i v1 v2 _ _ _ _ _ _ (hA'.less (by omega)) hlt hPv F2.mark (by simp [hxy]) (by simp)) (fun ok s₃ h₃ => ?_) fun _ _ e => e.elim)
    obtain ⟨rfl, h₃, t₃, rfl, hk₃⟩ := h₃
    have F3 := F2.kept hk₃
    have hst₃' : St (i + 1) ⟨h₃, g₁, d₁, t₃, os₁⟩ := W.frame _ _ _ hst₃ (fun b hb o e => hk₃ b o e) (by simp)
    have mv3 : Mv wr [] s₀ ⟨h₃, g₁, d₁, t₃, os₁⟩ := (hmv.trans (mv12.mono hw0 (fun _ h => h))).trans ((F2.toMv (t := t₁) (t' := t₂) hCw).trans (Mv.of_keeps (s := ⟨h₂, g₁, d₁, t₂, os₁⟩) hk₃))
    cases hpz : pz i with
    | false =>
      rw [passing_false hlt hpz]
      simp only [Bool.false_eq_true, if_false]
      exact seg_again rfl (ih (i + 1) s₀ _ _ (by omega) hlt hst₃' mv3 F3.mark)
    | true =>
      rw [passing_true hlt hpz, List.length_cons]
      simp only [if_true]
      have hy : ∀ v, yieldOut cenv v = yieldValue v := fun v => by simp only [yieldOut, hco, Bool.false_eq_true, if_false]
      simp only [hy]
      rw [Sem.bind_eq_wrap', Sem.bind_eq_wrap', Sem.wrap_wrap, Sem.wrap_wrap]
      refine seg_wrap (wpAny_mono (hel _ i v1 v2 _ _ _ _ _ _ (hA'.less (by omega)) hlt hpz hPv F3.mark (by simp [hxy]) (by simp)) (fun y s₄ h₄ => ?_) fun _ _ e => e.elim)
      obtain ⟨hFy, h₄, t₄, rfl, hk₄⟩ := h₄
      obtain ⟨pa1, pa2⟩ := passing_at hlt hpz
      refine seg_at (seg_yield rfl rfl rfl ⟨_, pa2, ⟨i, pa1, hlt, hpz, hFy⟩, mv3.trans (Mv.of_keeps (s := ⟨h₃, g₁, d₁, t₃, os₁⟩) hk₄), fun s'' hal => ?_⟩)
      obtain ⟨h5, g5, d5, t5, os5⟩ := s''
      exact seg_again rfl (ih (i + 1) ⟨h5, g5, d5, t5, os5⟩ ⟨h5, g5, d5, t5, os5⟩ _ (by omega) hlt (W.frame _ _ _ hst₃' (fun b hb o e => hal b (hfp b hb) o (hk₄ b o e)) (by simp)) Mv.refl
        ((F3.kept hk₄).still hal hCf hn))
end
end
section
def tabs : List Addr := [101, 158, 251, 105, 162, 255]
/-- the table of inner codes of one code object -/
def Tab (h : Heap) (c P : Addr) : Prop := ∃ ps, h.IsCode c P ps ∧ h.TableAt c P ps
theorem Tab.keeps2 {h h' : Heap} {c P : Addr} (T : Tab h c P) (kc : ∀ o, h.get? c = some o → h'.get? c = some o) (kP : ∀ o, h.get? P = some o → h'.get? P = some o) : Tab h' c P := by
  obtain ⟨ps, ⟨o, vs, file, tf, flags, tg, inF, text, tt, op, a, r1, r2, r3, r4, r5, r6, b, r⟩, ⟨⟨o2, vs2, a2, q⟩, b2⟩⟩ := T
  exact ⟨ps, ⟨o, vs, file, tf, flags, tg, inF, text, tt, op, kc _ a, r1, r2, r3, r4, r5, r6, kP _ b, r⟩, ⟨⟨o2, vs2, kc _ a2, q⟩, kP _ b2⟩⟩
theorem Tab.live1 {h : Heap} {c P : Addr} (T : Tab h c P) : ∃ o, h.get? c = some o := let ⟨_, _, ⟨⟨o, _, a, _⟩, _⟩⟩ := T; ⟨o, a⟩
theorem Tab.live2 {h : Heap} {c P : Addr} (T : Tab h c P) : ∃ ps, h.get? P = some ⟨.none, none, .fields ps, #[]⟩ := let ⟨ps, _, ⟨_, b⟩⟩ := T; ⟨ps, b⟩
def TabOk (h : Heap) : Prop := Tab h 105 101 ∧ Tab h 162 158 ∧ Tab h 255 251
theorem TabOk.keeps {h h' : Heap} (T : TabOk h) (k : ∀ b ∈ tabs, ∀ o, h.get? b = some o → h'.get? b = some o) : TabOk h' :=
  ⟨T.1.keeps2 (k _ (by decide)) (k _ (by decide)), T.2.1.keeps2 (k _ (by decide)) (k _ (by decide)), T.2.2.keeps2 (k _ (by decide)) (k _ (by decide))⟩
theorem TabOk.live {h : Heap} (T : TabOk h) : ∀ b ∈ tabs, ∃ o, h.get? b = some o := by
  intro x hx
  simp only [tabs, List.mem_cons, List.not_mem_nil, or_false] at hx
  rcases hx with rfl | rfl | rfl | rfl | rfl | rfl
  · obtain ⟨_, e⟩ := T.1.live2; exact ⟨_, e⟩
  · obtain ⟨_, e⟩ := T.2.1.live2; exact ⟨_, e⟩
  · obtain ⟨_, e⟩ := T.2.2.live2; exact ⟨_, e⟩
  · exact T.1.live1
  · exact T.2.1.live1
  · exact T.2.2.live1
def dead : Obj := ⟨.none, none, .freed, #[]⟩
def strike (h : Heap) : Heap := ⟨((h.objs.setIfInBounds 101 dead).setIfInBounds 158 dead).setIfInBounds 251 dead, h.life⟩
theorem strike_size (h : Heap) : (strike h).objs.size = h.objs.size := by simp [strike]
theorem strike_out {h : Heap} {b : Addr} (hb : b ∈ grows) : (strike h).get? b = none := by
  simp only [grows, List.mem_cons, List.not_mem_nil, or_false] at hb
  have key : (strike h).objs[b]? = some dead ∨ (strike h).objs[b]? = none := by
    unfold strike
    rcases hb with rfl | rfl | rfl <;> simp only [Array.getElem?_setIfInBounds] <;> (repeat' split) <;> simp_all
  unfold Heap.get?
  rcases key with e | e <;> rw [e] <;> rfl
theorem strike_in {h : Heap} {b : Addr} (hb : b ∉ grows) : (strike h).get? b = h.get? b := by
  simp only [grows, List.mem_cons, List.not_mem_nil, or_false, not_or] at hb
  have h1 : (251 : Nat) ≠ b := Ne.symm hb.2.2
  have h2 : (158 : Nat) ≠ b := Ne.symm hb.2.1
  have h3 : (101 : Nat) ≠ b := Ne.symm hb.1
  unfold Heap.get? strike
  simp only [Array.getElem?_setIfInBounds, h1, h2, h3, if_false]
theorem strike_of {h : Heap} {b : Addr} {o : Obj} (e : (strike h).get? b = some o) : b ∉ grows ∧ h.get? b = some o := by
  by_cases hb : b ∈ grows
  · rw [strike_out hb] at e; cases e
  · exact ⟨hb, (strike_in hb) ▸ e⟩
/-- what a call that may write down a new inner code keeps -/
def KeepsG (h h' : Heap) : Prop := Keeps (strike h) (strike h')
theorem KeepsG.get {h h' : Heap} (k : KeepsG h h') {b : Addr} {o : Obj} (hb : b ∉ grows) (e : h.get? b = some o) : h'.get? b = some o := (strike_of (k b o ((strike_in hb).trans e))).2
theorem KeepsG.of {h h' : Heap} (k : ∀ b o, b ∉ grows → h.get? b = some o → h'.get? b = some o) : KeepsG h h' := fun b o e => (strike_in (strike_of e).1).trans (k b o (strike_of e).1 (strike_of e).2)
theorem KeepsG.ofK {h h' : Heap} (k : Keeps h h') : KeepsG h h' := KeepsG.of fun b o _ e => k b o e
theorem KeepsG.trans {a b c : Heap} (x : KeepsG a b) (y : KeepsG b c) : KeepsG a c := Keeps.trans x y
theorem top_out (P : Params) {b : Addr} (hb : b ∈ grows) : (K1 P).lookup b = none := by
  simp only [grows, List.mem_cons, List.not_mem_nil, or_false] at hb
  rcases hb with rfl | rfl | rfl <;> kernel_rfl
theorem Top.strike {w : World} {h : Heap} (X : Top w h) : Top w (strike h) := fun a o e => by
  by_cases hb : a ∈ grows
  · rw [top_out _ hb] at e; cases e
  · exact (strike_in hb).trans (X a o e)
theorem Top.ofStrike {w : World} {h : Heap} (X : Top w (Mine.strike h)) : Top w h := fun a o e => (strike_of (X a o e)).2
def Own (h₀ : Heap) (L : Addr) (cs : List (Str × Addr)) (a : Addr) : Prop := h₀.get? a = none ∧ a ∉ tabs ∧ a ≠ L ∧ ∀ n, (n, a) ∉ cs
/-- where a walk stands, with cells, in a world whose inner codes may grow -/
structure WkT (h₀ : Heap) (L : Addr) (cs : List (Str × Addr)) (hz h : Heap) (m cm : Str → Option Value) (news : List (Addr × Obj)) : Prop where
  F : Fr h₀ L h m
  N : ∀ p ∈ news, h.get? p.1 = some p.2 ∧ Own h₀ L cs p.1
  Z : ∀ b o, b ≠ L → (∀ n, (n, b) ∉ cs) → hz.get? b = some o → h.get? b = some o
  C : Cl L cs h cm
  D : (cs.map (·.1)).Nodup
  T : TabOk h
  S : ∀ b ∈ grows, h₀.get? b = none
  LT : L ∉ tabs
  CT : ∀ n c, (n, c) ∈ cs → c ∉ tabs
theorem lookup_of_nodup {cs : List (Str × Addr)} : (cs.map (·.1)).Nodup → ∀ {n : Str} {c : Addr}, (n, c) ∈ cs → cs.lookup n = some c := by
  induction cs with
  | nil => intro _ n c h; cases h
  | cons x r ih =>
    intro hd n c h
    obtain ⟨a, b⟩ := x
    simp only [List.map_cons, List.nodup_cons] at hd
    rcases List.mem_cons.mp h with e | h
    · cases e; simp [List.lookup]
    · have : (n == a) = false := by
        rw [beq_eq_false_iff_ne]; intro e; exact hd.1 (List.mem_map.mpr ⟨(n, c), h, e⟩)
      simp only [List.lookup, this]; exact ih hd.2 h
section
variable {w : World} {A : Around} {E : Value → Shared → Prop} {h h₀ h' hz : Heap} {g : Array GenState} {d : Drawn} {t : Nat} {os : OsState} {env : Env} {m cm : Str → Option Value} {news : List (Addr × Obj)} {M : Model} {L : Addr} {cs : List (Str × Addr)}
theorem WkT.liveC (F : WkT h₀ L cs hz h m cm news) {n : Str} {c : Addr} (e : (n, c) ∈ cs) : ∃ o, h.get? c = some o := let ⟨o, ho, _⟩ := F.C.cell n c (lookup_of_nodup F.D e); ⟨o, ho⟩
theorem WkT.liveL (F : WkT h₀ L cs hz h m cm news) : ∃ o, h.get? L = some o := let ⟨o, _, _, e, _⟩ := F.F.ns; ⟨o, e⟩
theorem WkT.kept (F : WkT h₀ L cs hz h m cm news) (k : Keeps h h') : WkT h₀ L cs hz h' m cm news :=
  ⟨F.F.kept k, fun p q => ⟨k _ _ (F.N p q).1, (F.N p q).2⟩, fun b o q r e => k _ _ (F.Z b o q r e), F.C.keeps k, F.D, F.T.keeps (fun b _ o e => k b o e), F.S, F.LT, F.CT⟩
theorem WkT.keptG (F : WkT h₀ L cs hz h m cm news) (k : KeepsG h h') (T : TabOk h') : WkT h₀ L cs h' h' m cm news := by
  have hg : ∀ b, b ∉ tabs → b ∉ grows := fun b q x => q (by
    simp only [grows, List.mem_cons, List.not_mem_nil, or_false] at x; rcases x with rfl | rfl | rfl <;> simp [tabs])
  refine ⟨⟨F.F.ns.at' (fun o e => k.get (hg _ F.LT) e), fun b o e => k.get (fun x => by rw [F.S b x] at e; cases e) (F.F.keep b o e), F.F.above⟩, fun p q => ⟨k.get (hg _ (F.N p q).2.2.1) (F.N p q).1, (F.N p q).2⟩, fun _ _ _ _ e => e, ⟨fun n c e => ?_, F.C.apart, F.C.above⟩, F.D, T, F.S, F.LT, F.CT⟩
  obtain ⟨o, ho, hd⟩ := F.C.cell n c e
  exact ⟨o, k.get (hg _ (F.CT n c (mem_of_lookup e))) ho, hd⟩
theorem WkT.mark (F : WkT h₀ L cs hz h m cm news) : WkT h₀ L cs h h m cm news := ⟨F.F, F.N, fun _ _ _ _ e => e, F.C, F.D, F.T, F.S, F.LT, F.CT⟩
theorem WkT.drop (F : WkT h₀ L cs hz h m cm news) : WkT h₀ L cs hz h m cm [] := ⟨F.F, fun _ q => (by cases q), F.Z, F.C, F.D, F.T, F.S, F.LT, F.CT⟩
theorem WkT.fewer {news' : List (Addr × Obj)} (F : WkT h₀ L cs hz h m cm news) (q : ∀ p ∈ news', p ∈ news) : WkT h₀ L cs hz h m cm news' := ⟨F.F, fun p r => F.N p (q p r), F.Z, F.C, F.D, F.T, F.S, F.LT, F.CT⟩
theorem WkT.get {a : Addr} {o : Obj} (F : WkT h₀ L cs hz h m cm news) (q : (a, o) ∈ news) : h.get? a = some o := (F.N _ q).1
theorem WkT.own {a : Addr} {o : Obj} (F : WkT h₀ L cs hz h m cm news) (q : (a, o) ∈ news) : Own h₀ L cs a := (F.N _ q).2
theorem WkT.top (F : WkT h₀ L cs hz h m cm news) (X : Top w h₀) : Top w h := Frag.In.keeps X F.F.keep
theorem WkT.old (F : WkT h₀ L cs hz h m cm news) : Keeps h₀ h := F.F.keep
theorem WkT.oldS (F : WkT h₀ L cs hz h m cm news) : Keeps h₀ (strike h) := fun b o e => (strike_in (fun x => by rw [F.S b x] at e; cases e)).trans (F.F.keep b o e)
theorem WkT.oldG {hp : Heap} (F : WkT (strike hp) L cs hz h m cm news) : KeepsG hp h := F.oldS
theorem WkT.h0 {a : Addr} (F : WkT h₀ L cs hz h m cm news) (e : h.get? a = none) : h₀.get? a = none := by
  cases q : h₀.get? a with
  | none => rfl
  | some o => rw [F.old _ _ q] at e; cases e
theorem WkT.neL {a : Addr} (F : WkT h₀ L cs hz h m cm news) (e : h.get? a = none) : L ≠ a := fun q => by obtain ⟨o, x⟩ := F.liveL; rw [q, e] at x; cases x
theorem WkT.ownNew {a : Addr} (F : WkT h₀ L cs hz h m cm news) (e : h.get? a = none) : Own h₀ L cs a :=
  ⟨F.h0 e, fun q => (by obtain ⟨o, x⟩ := F.T.live a q; rw [e] at x; cases x), Ne.symm (F.neL e), fun n q => (by obtain ⟨o, x⟩ := F.liveC q; rw [e] at x; cases x)⟩
theorem WkT.add {a : Addr} {o : Obj} (F : WkT h₀ L cs hz h m cm news) (k : Keeps h h') (e : h'.get? a = some o) (n : h.get? a = none) : WkT h₀ L cs hz h' m cm ((a, o) :: news) :=
  ⟨F.F.kept k, fun p q => by
    rcases List.mem_cons.mp q with rfl | q
    · exact ⟨e, F.ownNew n⟩
    · exact ⟨k _ _ (F.N p q).1, (F.N p q).2⟩, (F.kept k).Z, (F.kept k).C, F.D, (F.kept k).T, F.S, F.LT, F.CT⟩
theorem WkT.ownIn {a : Addr} {o : Obj} (F : WkT h₀ L cs hz h m cm news) (e : h.get? a = some o) (w : Own h₀ L cs a) : WkT h₀ L cs hz h m cm ((a, o) :: news) :=
  ⟨F.F, fun p q => by
    rcases List.mem_cons.mp q with rfl | q
    · exact ⟨e, w⟩
    · exact F.N p q, F.Z, F.C, F.D, F.T, F.S, F.LT, F.CT⟩
theorem WkT.mv {wr : List Addr} {gr : List Nat} {s s' : Shared} (F : WkT h₀ L cs hz s.heap m cm news) (v : Mv wr gr s s') (hw : ∀ a ∈ wr, Own h₀ L cs a) (hn : ∀ p ∈ news, p.1 ∉ wr) : WkT h₀ L cs s'.heap s'.heap m cm news :=
  ⟨⟨F.F.ns.at' (fun o e => v.keep _ o (fun q => (hw _ q).2.2.1 rfl) e), fun b o e => v.keep b o (fun q => by rw [(hw b q).1] at e; cases e) (F.F.keep b o e), F.F.above⟩, fun p q => ⟨v.keep _ _ (hn p q) (F.N p q).1, (F.N p q).2⟩, fun _ _ _ _ e => e,
    ⟨fun n c e => let ⟨o, ho, hd⟩ := F.C.cell n c e; ⟨o, v.keep c o (fun q => (hw c q).2.2.2 n (mem_of_lookup e)) ho, hd⟩, F.C.apart, F.C.above⟩, F.D, F.T.keeps (fun b q o e => v.keep b o (fun r => (hw b r).2.1 q) e), F.S, F.LT, F.CT⟩
theorem tL {x : Str} {pos : Pos} {v : Value} {Q : Value → Shared → Prop} (F : WkT h₀ L cs hz h m cm news) (hv : m x = some v) (hq : Q v ⟨h, g, d, t, os⟩)
    (hL : env.locals = L) (hk : env.scope.kind = .function) (hl : env.kindOf x = some .local) (hd : (x == ("__debug__" : Str)) = false) :
    wpAny M A (eval (.Name x pos) env) Q E ⟨h, g, d, t, os⟩ := by subst hL; exact wpAny_Name (wpAny_loadName_local hk hl F.F.ns hv hq) hd
theorem tldL {x : Str} {v : Value} {Q : Value → Shared → Prop} (F : WkT h₀ L cs hz h m cm news) (hv : m x = some v) (hq : Q v ⟨h, g, d, t, os⟩)
    (hL : env.locals = L) (hk : env.scope.kind = .function) (hl : env.kindOf x = some .local) :
    wpAny M A (loadName env x) Q E ⟨h, g, d, t, os⟩ := by subst hL; exact wpAny_loadName_local hk hl F.F.ns hv hq
theorem tldC {x : Str} {v : Value} {Q : Value → Shared → Prop} (F : WkT h₀ L cs hz h m cm news) (hv : cm x = some v) (hq : Q v ⟨h, g, d, t, os⟩)
    (hE : env.cells = cs) (hc : (env.cells.lookup x).isSome = true) (hk : env.scope.kind = .function) (hl : env.kindOf x = some .cell) :
    wpAny M A (loadName env x) Q E ⟨h, g, d, t, os⟩ := by
  subst hE
  obtain ⟨c, e⟩ := Option.isSome_iff_exists.mp hc
  exact wpAny_loadName_cell hk hl e (hv ▸ F.C.cell x c e) hq
theorem tC {x : Str} {pos : Pos} {v : Value} {Q : Value → Shared → Prop} (F : WkT h₀ L cs hz h m cm news) (hv : cm x = some v) (hq : Q v ⟨h, g, d, t, os⟩)
    (hE : env.cells = cs) (hc : (env.cells.lookup x).isSome = true) (hk : env.scope.kind = .function) (hl : env.kindOf x = some .cell) (hd : (x == ("__debug__" : Str)) = false) :
    wpAny M A (eval (.Name x pos) env) Q E ⟨h, g, d, t, os⟩ := wpAny_Name (tldC F hv hq hE hc hk hl) hd
theorem tstL {x : Str} {v : Value} {Q : Unit → Shared → Prop} (F : WkT h₀ L cs hz h m cm news)
    (k : ∀ h' t, WkT h₀ L cs hz h' (fun y => if y = x then some v else m y) cm news → Q () ⟨h', g, d, t, os⟩)
    (hL : env.locals = L) (hk : env.scope.kind = .function) (hl : env.kindOf x = some .local) : wpAny M A (storeName env x v) Q E ⟨h, g, d, t, os⟩ := by
  subst hL
  refine wpAny_storeName_local hl F.F.ns (fun h' hn hs => k h' _ ⟨F.F.set hn hs, fun p q => ⟨hs.extBut _ _ (F.N p q).2.2.2.1 (F.N p q).1, (F.N p q).2⟩, fun b o q r e => hs.extBut _ _ q (F.Z b o q r e), F.C.sameBut hs (Nat.le_refl _), F.D, F.T.keeps (fun b q o e => hs.extBut b o (fun r => F.LT (r ▸ q)) e), F.S, F.LT, F.CT⟩) (by rw [hk]; rfl)
theorem tstC {x : Str} {v : Value} {Q : Unit → Shared → Prop} (F : WkT h₀ L cs hz h m cm news)
    (k : ∀ h' t, WkT h₀ L cs hz h' m (fun y => if y = x then some v else cm y) news → Q () ⟨h', g, d, t, os⟩)
    (hE : env.cells = cs) (hc : (env.cells.lookup x).isSome = true) (hk : env.scope.kind = .function) (hl : env.kindOf x = some .cell) : wpAny M A (storeName env x v) Q E ⟨h, g, d, t, os⟩ := by
  subst hE
  obtain ⟨c, hc⟩ := Option.isSome_iff_exists.mp hc
  have hm := mem_of_lookup hc
  have hLc := F.C.above x c hm
  refine wpAny_storeName_cell hk hl hc (F.C.cell x c hc) fun h' hv hs => k h' _ ⟨⟨F.F.ns.sameBut hs (Nat.ne_of_lt hLc), fun b o e => hs.extBut _ _ (Nat.ne_of_lt (Nat.lt_trans (Nat.lt_of_lt_of_le (Heap.lt_size e) F.F.above) hLc)) (F.F.keep b o e), F.F.above⟩,
    fun p q => ⟨hs.extBut _ _ (fun r => (F.N p q).2.2.2.2 x (r ▸ hm)) (F.N p q).1, (F.N p q).2⟩, fun b o q r e => hs.extBut _ _ (fun z => r x (z ▸ hm)) (F.Z b o q r e), ⟨fun n c' e => ?_, F.C.apart, F.C.above⟩, F.D, F.T.keeps (fun b q o e => hs.extBut b o (fun r => F.CT x c hm (r ▸ q)) e), F.S, F.LT, F.CT⟩
  by_cases hn : n = x
  · subst hn; rw [hc] at e; cases e; simpa using hv
  · have hcc : c' ≠ c := fun q => hn (name_of_addr F.C.apart (mem_of_lookup e) (q ▸ hm))
    simpa [hn] using (F.C.cell n c' e).sameBut hs hcc
theorem tG {x : Str} {pos : Pos} {v : Value} {Q : Value → Shared → Prop} (gl : GlobIs x v) (X : Top w h₀) (F : WkT h₀ L cs hz h m cm news) (hq : Q v ⟨h, g, d, t, os⟩)
    (hk : env.scope.kind = .function) (hl : env.kindOf x = some .globalImplicit) (hg : env.globals = 3) (hb : env.builtins = 0) (hd : (x == ("__debug__" : Str)) = false) :
    wpAny (model pg w) A (eval (.Name x pos) env) Q E ⟨h, g, d, t, os⟩ := nG gl (F.top X) hq hk hl hg hb hd
/-- a name of the top, read where only the heap is told -/
theorem tasg2 {x y : Str} {px py pos : Pos} {k : Nat} {T : Addr} {a b : Value} {Q : Unit → Shared → Prop}
    (hh : A.handled = none) (F : WkT h₀ L cs hz h m cm news) (hT : IsPair h T a b)
    (q : ∀ h' t', WkT h₀ L cs hz h' (fun z => if z = y then some b else if z = x then some a else m z) cm news → Q () ⟨h', g, d, t', os⟩)
    (hL : env.locals = L) (hk : env.scope.kind = .function) (hx : env.kindOf x = some .local) (hy : env.kindOf y = some .local) :
    wpAny (model pg w) A (assign (.Tuple [.Name x px, .Name y py] k pos) env (.ref T)) Q E ⟨h, g, d, t, os⟩ := by
  refine wpAny_assign_Tuple (items := #[a, b]) hh ⟨_, hT, rfl, _, rfl⟩ rfl rfl fun h₁ e₁ => ?_
  have F₁ : WkT h₀ L cs hz h₁ m cm news := F.kept fun c o e => e₁ c o (Nat.ne_of_lt (Heap.lt_size e)) e
  refine assignInOrder_cons ?_
  refine wpAny_assign_Name (tstL F₁ (fun h₂ t₂ F₂ => ?_) hL hk hx)
  refine assignInOrder_cons ?_
  refine wpAny_assign_Name (tstL F₂ (fun h₃ t₃ F₃ => ?_) hL hk hy)
  exact assignInOrder_nil (q _ _ F₃)
theorem cellsFrom_has {x : Str} : ∀ (names : List (Str × NameKind)) (n : Nat) (acc : List (Str × Addr)), (acc.lookup x).isSome = true → ((cellsFrom n names acc).lookup x).isSome = true
  | [], _, _, h => h
  | (name, kind) :: r, n, acc, h => by
    unfold cellsFrom
    split
    · refine cellsFrom_has r _ _ ?_
      simp only [List.lookup]
      split
      · rfl
      · exact h
    · exact cellsFrom_has r _ _ h
theorem cellsFrom_cell {x : Str} : ∀ (names : List (Str × NameKind)) (n : Nat) (acc : List (Str × Addr)), names.lookup x = some .cell → ((cellsFrom n names acc).lookup x).isSome = true
  | [], _, _, h => by cases h
  | (name, kind) :: r, n, acc, h => by
    unfold cellsFrom
    simp only [List.lookup] at h
    split at h
    · rename_i e
      injection h with h
      subst h
      rw [if_pos (by rfl)]
      refine cellsFrom_has r _ _ ?_
      simp only [List.lookup, e]
      rfl
    · split
      · exact cellsFrom_cell r _ _ h
      · exact cellsFrom_cell r _ _ h
theorem call_fnC {n : Nat} {Q : Value → Shared → Prop} {hp : Heap} {f : Addr} {fd : FuncData} {body : List Stmt} {vals : List Value} {binds : List (Str × Value)} (hA : AOk A (n + 2)) (X : Top w hp) (T : TabOk hp) (FA : FnAt f fd body)
    (hbind : bindArgs fd ⟨vals, []⟩ = pure binds) (hclo : fd.closure = []) (hgen : fd.scope.isGenerator = false) (hnd : ((cellsFrom 0 fd.scope.names []).map (·.1)).Nodup)
    (hkind : (binds.all fun x => fd.scope.names.lookup x.1 == some .local || fd.scope.names.lookup x.1 == some .cell) = true)
    (k : ∀ h₁ t₁ L, WkT (strike hp) L (cellsFrom (L + 1) fd.scope.names []) h₁ h₁ (bindL (callEnvC fd L f).kindOf binds fun _ => none) (bindC (callEnvC fd L f).kindOf binds fun _ => none) [] → AOk (A.deeper (callEnvC fd L f)) n →
      wpAny (model pg w) (A.deeper (callEnvC fd L f)) (execs body (callEnvC fd L f)) (RetQ Q) (fun _ _ => False) ⟨h₁, g, d, t₁, os⟩) :
    codeAny (model pg w) A (.call (.ref f) ⟨vals, []⟩) (CodeQ Q E) ⟨hp, g, d, t, os⟩ := by
  refine codeAny_call_cells (binds := binds) hA.room (X f _ (FA.at' w.params)) rfl (noLimit X) (codeRec_of X (FA.code w.params)) FA.body hbind hclo ?_ ?_ FA.nco hgen FA.kind
  · intro x hx
    have := List.all_eq_true.mp hkind x hx
    rw [Bool.or_eq_true, beq_iff_eq, beq_iff_eq] at this
    exact this.imp_right fun e => ⟨e, cellsFrom_cell _ _ _ e⟩
  intro s₁ Y
  obtain ⟨h₁, tk, rfl, kp⟩ := Y.done
  have hlt : ∀ b ∈ tabs, b < hp.objs.size := fun b q => let ⟨o, e⟩ := T.live b q; Heap.lt_size e
  have hab : ∀ n c, (n, c) ∈ (callEnvC fd hp.objs.size f).cells → hp.objs.size < c := Y.above
  have F : WkT (strike hp) hp.objs.size (cellsFrom (hp.objs.size + 1) fd.scope.names []) h₁ h₁ (bindL (callEnvC fd hp.objs.size f).kindOf binds fun _ => none) (bindC (callEnvC fd hp.objs.size f).kindOf binds fun _ => none) [] :=
    ⟨⟨Y.toInCall.ns, fun b o e => kp b o (strike_of e).2, by rw [strike_size]; exact Nat.le_refl _⟩, fun _ q => (by cases q), fun _ _ _ _ e => e, ⟨Y.cell, Y.apart, Y.above⟩, by
      have : ∀ (names : List (Str × NameKind)) (n n' : Nat) (acc acc' : List (Str × Addr)), acc.map (·.1) = acc'.map (·.1) → (cellsFrom n names acc).map (·.1) = (cellsFrom n' names acc').map (·.1) := by
        intro names
        induction names with
        | nil => intro n n' acc acc' e; exact e
        | cons x r ih =>
          intro n n' acc acc' e
          obtain ⟨a, b⟩ := x
          unfold cellsFrom
          split
          · exact ih _ _ _ _ (by simp [e])
          · exact ih _ _ _ _ e
      rw [this _ _ 0 _ [] rfl]; exact hnd, T.keeps (fun b _ o e => kp b o e), fun b q => strike_out q, fun q => Nat.lt_irrefl _ (hlt _ q), fun n c e q => Nat.lt_irrefl _ (Nat.lt_trans (hlt _ q) (hab n c e))⟩
  exact wpAny_mono (k h₁ tk _ F ((hA.less (by omega)).deeper _)) (fun fl s' q => q) (fun _ _ q => q.elim)
end
section
variable {w : World} {A : Around} {E : Value → Shared → Prop} {h h₀ hz : Heap} {g : Array GenState} {d : Drawn} {t : Nat} {os : OsState} {env : Env} {m cm : Str → Option Value} {news : List (Addr × Obj)} {L : Addr} {cs : List (Str × Addr)}
theorem tGl {x : Str} {pos : Pos} {v : Value} {Q : Value → Shared → Prop} (X : Top w h₀) (F : WkT h₀ L cs hz h m cm news) (gl : globL.lookup x = some v) (hq : Q v ⟨h, g, d, t, os⟩)
    (hk : env.scope.kind = .function) (hl : env.kindOf x = some .globalImplicit) (hg : env.globals = 3) (hb : env.builtins = 0) (hd : (x == ("__debug__" : Str)) = false) :
    wpAny (model pg w) A (eval (.Name x pos) env) Q E ⟨h, g, d, t, os⟩ := nG (glob_all gl) (F.top X) hq hk hl hg hb hd
end
end
section
theorem h101 (P : Params) : (hd.heap_39 P).lookup 101 = some ⟨.none, none, .fields #[], #[]⟩ := by kernel_rfl
theorem h158 (P : Params) : (hd.heap_39 P).lookup 158 = some ⟨.none, none, .fields #[], #[]⟩ := by kernel_rfl
theorem h251 (P : Params) : (hd.heap_39 P).lookup 251 = some ⟨.none, none, .fields #[], #[]⟩ := by kernel_rfl
def o105 : { o : Obj // ∀ P, (hd.heap_39 P).lookup 105 = some o } := ⟨_, fun P => by rfl⟩
def o162 : { o : Obj // ∀ P, (hd.heap_39 P).lookup 162 = some o } := ⟨_, fun P => by rfl⟩
def o255 : { o : Obj // ∀ P, (hd.heap_39 P).lookup 255 = some o } := ⟨_, fun P => by rfl⟩
def fieldsOfO (o : Obj) : Array Value := match o.data with | .fields vs => vs | _ => #[]
theorem tab_start {h : Heap} {c P : Addr} {o : Obj} (e : h.get? c = some o) (eP : h.get? P = some ⟨.none, none, .fields #[], #[]⟩) (hc : o.cls = .type "code") (hd : o.data = .fields (fieldsOfO o)) (h11 : (fieldsOfO o)[11]? = some (.ref P))
   (h18 : ∃ a b, (fieldsOfO o).getD 18 .none = .str a b) (h7 : ∃ a b, (fieldsOfO o).getD 7 .none = .int a b) (h9 : ∃ a, (fieldsOfO o).getD 9 .none = .bool a) (h10 : ∃ a b, (fieldsOfO o).getD 10 .none = .int a b) (hne : c ≠ P) : h.IsCode c P #[] ∧ h.TableAt c P #[] := by
  obtain ⟨a, b, h18⟩ := h18
  obtain ⟨a7, b7, h7⟩ := h7
  obtain ⟨a9, h9⟩ := h9
  obtain ⟨a10, b10, h10⟩ := h10
  refine ⟨⟨o, fieldsOfO o, a, b, _, _, a9, _, _, _, e, hd, ?_, h18, h7, h9, h10, eP, rfl, by simp [TriplesOk], hne⟩, ⟨⟨o, fieldsOfO o, e, hc, hd, h11⟩, eP⟩⟩
  rw [Array.getD_eq_getD_getElem?, h11]; rfl
section
variable {w : World} {h h' : Heap}
theorem tab0a (X : (hd.heap_39 w.params).In h) : h.IsCode 105 101 #[] ∧ h.TableAt 105 101 #[] :=
  tab_start (X _ _ (o105.2 _)) (X _ _ (h101 _)) (by rfl) (by rfl) (by rfl) ⟨_, _, by rfl⟩ ⟨_, _, by rfl⟩ ⟨_, by rfl⟩ ⟨_, _, by rfl⟩ (by decide)
theorem tab0b (X : (hd.heap_39 w.params).In h) : h.IsCode 162 158 #[] ∧ h.TableAt 162 158 #[] :=
  tab_start (X _ _ (o162.2 _)) (X _ _ (h158 _)) (by rfl) (by rfl) (by rfl) ⟨_, _, by rfl⟩ ⟨_, _, by rfl⟩ ⟨_, by rfl⟩ ⟨_, _, by rfl⟩ (by decide)
theorem tab0c (X : (hd.heap_39 w.params).In h) : h.IsCode 255 251 #[] ∧ h.TableAt 255 251 #[] :=
  tab_start (X _ _ (o255.2 _)) (X _ _ (h251 _)) (by rfl) (by rfl) (by rfl) ⟨_, _, by rfl⟩ ⟨_, _, by rfl⟩ ⟨_, by rfl⟩ ⟨_, _, by rfl⟩ (by decide)
theorem tab_head (X : (hd.heap_39 w.params).In h) : TabOk h := ⟨⟨_, tab0a X⟩, ⟨_, tab0b X⟩, ⟨_, tab0c X⟩⟩
theorem lookup_filter (f : Addr → Bool) : ∀ (K : List (Addr × Obj)) {a : Addr} {o : Obj}, (K.filter fun p => f p.1).lookup a = some o → f a = true ∧ K.lookup a = some o
  | [], _, _, h => by cases h
  | (b, x) :: r, a, o, h => by
    rw [List.filter_cons] at h
    split at h
    · rename_i hb
      rw [List.lookup_cons] at h ⊢
      split at h
      · rename_i e
        have e' : a = b := by simpa using e
        subst e'
        exact ⟨hb, h⟩
      · exact lookup_filter f r h
    · rename_i hb
      obtain ⟨h1, h2⟩ := lookup_filter f r h
      refine ⟨h1, ?_⟩
      rw [List.lookup_cons]
      split
      · rename_i e
        have e' : a = b := by simpa using e
        subst e'
        exact absurd h1 hb
      · exact h2
theorem top_head (X : (hd.heap_39 w.params).In h) : Top w h := fun a o e => X a o (lookup_filter (fun x => !grows.contains x) _ e).2
theorem oldk (X : (hd.heap_39 w.params).In h) (k : KeepsG h h') (T' : TabOk h') : OldK h h' := by
  refine ⟨fun b o e => ?_, fun b o e => ?_⟩
  · by_cases hb : b ∈ grows
    · simp only [grows, List.mem_cons, List.not_mem_nil, or_false] at hb
      rcases hb with rfl | rfl | rfl
      · rw [X _ _ (h101 _)] at e; cases e
        obtain ⟨ps, e'⟩ := T'.1.live2
        exact .inr (.inl ⟨(tab0a X).2.isCodeTable, rfl, #[], ps, rfl, by simpa using e'⟩)
      · rw [X _ _ (h158 _)] at e; cases e
        obtain ⟨ps, e'⟩ := T'.2.1.live2
        exact .inr (.inl ⟨(tab0b X).2.isCodeTable, rfl, #[], ps, rfl, by simpa using e'⟩)
      · rw [X _ _ (h251 _)] at e; cases e
        obtain ⟨ps, e'⟩ := T'.2.2.live2
        exact .inr (.inl ⟨(tab0c X).2.isCodeTable, rfl, #[], ps, rfl, by simpa using e'⟩)
    · exact .inl (k.get hb e)
  · by_cases hb : b ∈ grows
    · exact T'.live b (by simp only [grows, List.mem_cons, List.not_mem_nil, or_false] at hb; rcases hb with rfl | rfl | rfl <;> decide)
    · exact ⟨o, k.get hb e⟩
end
end
section
theorem over_gx {elt : PySem.Expr} {gs : List Comprehension} {scope : Scope} {pos : Pos} {it acc : Value} {cenv : Env} {n : Nat} (h : n ≤ 16) : AOk ((AN 20).over (.compLoop (.GeneratorExp elt gs scope pos) 0 it acc cenv) []) n :=
  ⟨rfl, by show 580 + 0 + 1 + n ≤ 600; omega, by show 240 + 0 + 3 + 8 * n ≤ 400; omega⟩
theorem seg_gs {w : World} {A : Around} {R : GenEnd} {Y : Protocol} {n : Nat} {s₀ s : Shared} {elt target iter : PySem.Expr} {ifs : List PySem.Expr} {scope : Scope} {pos : Pos} {I : Addr} {cenv : Env}
    (loop : Seg (model pg w) A R Y n s₀ (.compLoop (.GeneratorExp elt [⟨target, iter, ifs, 0⟩] scope pos) 0 (.ref I) .none cenv) ((model pg w).den (.compLoop (.GeneratorExp elt [⟨target, iter, ifs, 0⟩] scope pos) 0 (.ref I) .none cenv)) [] s)
    (hself : ∀ (A' : Around) (E : Value → Shared → Prop) (Q : Value → Shared → Prop), Q (.ref I) s → wpAny (model pg w) A' (pyIter (.ref I)) Q E s) :
    Seg (model pg w) A R Y n s₀ (.compStart (.GeneratorExp elt [⟨target, iter, ifs, 0⟩] scope pos) 0 (.ref I) .none cenv) ((model pg w).den (.compStart (.GeneratorExp elt [⟨target, iter, ifs, 0⟩] scope pos) 0 (.ref I) .none cenv)) [] s := by
  show Seg _ A _ _ _ s₀ _ ((compStart (.GeneratorExp elt [⟨target, iter, ifs, 0⟩] scope pos) 0 (.ref I) .none cenv).onRaise (leaving cenv)) [] s
  unfold compStart
  rw [Sem.onRaise_eq_wrap]
  show Seg _ A _ _ _ s₀ _ ((ask >>= _).wrap _ _ _ _) [] s
  refine seg_bind_wrap (wpAny_askSetting ?_)
  split
  · exact seg_again rfl loop
  · first
      | exact seg_bind_wrap (wpAny_rule (seg_bind_wrap (wpAny_standAt (seg_bind_wrap (hself _ _ _ (seg_again rfl loop))))))
      | (refine seg_bind_wrap (wpAny_rule ?_); show Seg _ A _ _ _ s₀ _ ((standAt iter.pos >>= _).wrap _ _ _ _) [] s; exact seg_bind_wrap (wpAny_standAt (seg_bind_wrap (hself _ _ _ (seg_again rfl loop)))))
section
variable {w : World} {A : Around} {E : Value → Shared → Prop} {h h₀ h' hz : Heap} {g : Array GenState} {d : Drawn} {t : Nat} {os : OsState} {env : Env} {m cm : Str → Option Value} {news : List (Addr × Obj)} {L : Addr} {cs : List (Str × Addr)}
theorem gstx_start {I : Addr} {nm qn : Value} {fp wr : List Addr} {N : Nat} {P : Nat → Value → Prop} {cd : Code} {t' : Nat} (X : Top w h') (hg : h'.get? I = some ⟨.type "generator", none, .fields #[.int g.size 0, nm, qn], #[]⟩) (hl : ∀ b ∈ wr, ∃ o, h'.get? b = some o)
    (go : ∀ s'' : Shared, Still fp h' s''.heap → Seg (model pg w) (AN 20) (GRx wr) (GY N P fp wr) N s'' cd ((model pg w).den cd) [] s'') : GStx w 20 I g.size N P fp wr 0 ⟨h', g.push (.fresh cd), d, t', os⟩ :=
  ⟨Nat.zero_le _, ⟨_, _, _, hg, rfl, rfl, rfl⟩, X 2 _ (eq2 w.params), hl, .fresh cd, h', by show (g.push _)[g.size]? = _; simp, Still.refl, fun s'' hs => ⟨rfl, go s'' hs⟩⟩
def GxQ (w : World) (A : Around) (E : Value → Shared → Prop) (env : Env) (scope : Scope) (cl : List (Str × Addr)) (elt target iter : PySem.Expr) (ifs : List PySem.Expr) (pos : Pos) (Q : Value → Shared → Prop) (it : Value) (s₂ : Shared) : Prop :=
  s₂.heap.NoLimit ∧ wpAny (model pg w) A (genexprCode env pos (env.qual ++ "<genexpr>") scope) (fun code s₃ => wpAny (model pg w) A (builtinsFor env.globals env.builtins) (fun bi s₄ =>
        ∀ h', h'.Ns s₄.heap.objs.size (fun y => if y = ".0" then some it else none) → Heap.SameBut s₄.heap.objs.size (s₄.heap.push { cls := .type "frame", data := .dict #[] }) h' →
          Q (.ref h'.objs.size) { s₄ with
            gens := s₄.gens.push (.fresh (.compStart (.GeneratorExp elt [⟨target, iter, ifs, 0⟩] scope pos) 0 it .none (genEnv scope cl s₄.heap.objs.size code bi env))),
            toks := s₄.toks + 1 + 1 + 1,
            heap := h'.push { cls := .type "generator", data := .fields #[.int s₄.gens.size 0, .str "<genexpr>" (s₄.toks + 1), .str (env.qual ++ "<genexpr>") (s₄.toks + 1 + 1)] } }) E s₃) E s₂
theorem gx_make {elt target iter : PySem.Expr} {ifs : List PySem.Expr} {scope : Scope} {cl : List (Str × Addr)} {pos : Pos} {Q : Value → Shared → Prop} {s : Shared}
    (k : wpAny (model pg w) A (eval iter env) (fun xv s₁ => wpAny (model pg w) A (pyIter xv) (GxQ w A E env scope cl elt target iter ifs pos Q) E s₁) E s)
    (hroom : A.depth < recursionLimit) (hco : scope.isCoroutine = false) (hclos : closureFor scope env = pure cl) (hcell : ∀ y ∈ scope.names, y.2 ≠ .cell) (h0 : scope.names.lookup (".0" : Str) = some NameKind.local) (hkind : scope.kind = .function)
    (hs : ∀ x, genFold iter env x = pure x) :
    wpAny (model pg w) A (eval (.GeneratorExp elt [⟨target, iter, ifs, 0⟩] scope pos) env) Q E s :=
  wpAny_GeneratorExp_make hco hclos hcell h0 hkind hroom k hs
/-- the module behind the builtins -/
def bmS : { v : Addr // ∀ P, nsIn (K1 P) 3 "__builtins__" = some (some (.ref v)) } := ⟨_, fun P => by rfl⟩
theorem bm_at (P : Params) : ∃ bm, nsIn (K1 P) 3 "__builtins__" = some (some (.ref bm)) ∧ bm ≠ builtinsNs ∧ ∃ ob, (K1 P).lookup bm = some ob ∧ ob.cls = .type "module" ∧ ob.dict = some builtinsNs ∧ ob.data = .plain :=
  ⟨bmS.1, bmS.2 P, by decide, _, by rfl, by rfl, by rfl, by rfl⟩
theorem bfor {s : Shared} {Q : Addr → Shared → Prop} (X : Top w s.heap) (hg : env.globals = 3) (hq : Q 0 s) : wpAny (model pg w) A (builtinsFor env.globals env.builtins) Q E s := by
  obtain ⟨bm, e, ne, ob, ho, hc, hd, hp⟩ := bm_at w.params
  rw [hg]
  unfold builtinsFor
  refine wpAny_bind ((looks_nsIn (M := model pg w) X e).here ?_)
  show wpAny _ A (if (bm == builtinsNs) = true then _ else _) Q E s
  rw [if_neg (by simpa using ne)]
  refine wpAny_bind (wpAny_load (X _ _ ho) ?_)
  rw [hp, hd, hc]
  exact wpAny_pure hq
theorem tab_code {s : Shared} {c P : Addr} {pos : Pos} {qualname : Str} {scope : Scope} {Q : Value → Shared → Prop} (T : Tab s.heap c P) (hc : env.code = .ref c) (hQ : ∀ code h₃ tk, Heap.ExtBut P s.heap h₃ → Tab h₃ c P → Q code { s with heap := h₃, toks := tk }) : wpAny (model pg w) A (genexprCode env pos qualname scope) Q E s := by
  obtain ⟨ps, hok, htab⟩ := T
  cases hf : codeAmong pos ps.toList with
  | some c' => exact wpAny_genexprCode_hit hc hok hf (hQ c' s.heap s.toks (fun _ _ _ e => e) ⟨_, hok, htab⟩)
  | none => exact wpAny_genexprCodeX hc hok htab hf fun c' h' tk hx _ _ h1 _ h2 _ => hQ _ _ _ hx ⟨_, h1, h2⟩
theorem gx_go {elt target iter : PySem.Expr} {ifs : List PySem.Expr} {scope : Scope} {cl : List (Str × Addr)} {pos : Pos} {Q : Value → Shared → Prop} {it : Value} (c P : Addr) (hcP : (c, P) ∈ [((105 : Addr), (101 : Addr)), (162, 158), (255, 251)]) (F : WkT h₀ L cs hz h m cm news) (X : Top w h₀)
    (hc : env.code = .ref c) (hg : env.globals = 3)
    (k : ∀ h' t' I C code nm qn cd, cd = Code.compStart (.GeneratorExp elt [⟨target, iter, ifs, 0⟩] scope pos) 0 it .none (genEnv scope cl C code 0 env) → WkT h₀ L cs h' h' m cm news → Own h₀ L cs I → Own h₀ L cs C → I ≠ C → (∀ b o, b ∉ tabs → h.get? b = some o → h'.get? b = some o) → h.get? I = none → h.get? C = none → h'.get? I = some ⟨.type "generator", none, .fields #[.int g.size 0, nm, qn], #[]⟩ →
      Wk hE C h' h' (fun y => if y = ".0" then some it else none) [] →
      Q (.ref I) ⟨h', g.push (.fresh cd), d, t', os⟩) :
    GxQ w A E env scope cl elt target iter ifs pos Q it ⟨h, g, d, t, os⟩ := by
  refine ⟨noLimit (F.top X), ?_⟩
  have hP : P ∈ grows := by simp only [List.mem_cons, Prod.mk.injEq, List.not_mem_nil, or_false] at hcP; rcases hcP with ⟨_, rfl⟩ | ⟨_, rfl⟩ | ⟨_, rfl⟩ <;> decide
  have hPt : P ∈ tabs := by simp only [List.mem_cons, Prod.mk.injEq, List.not_mem_nil, or_false] at hcP; rcases hcP with ⟨_, rfl⟩ | ⟨_, rfl⟩ | ⟨_, rfl⟩ <;> decide
  have hok : Tab h c P := by
    obtain ⟨T1, T2, T3⟩ := F.T
    simp only [List.mem_cons, Prod.mk.injEq, List.not_mem_nil, or_false] at hcP
    rcases hcP with ⟨rfl, rfl⟩ | ⟨rfl, rfl⟩ | ⟨rfl, rfl⟩ <;> assumption
  refine tab_code (s := ⟨h, g, d, t, os⟩) hok hc fun code h₃ tk hx hcode => ?_
  have hT3 : TabOk h₃ := by
    obtain ⟨T1, T2, T3⟩ := F.T
    simp only [List.mem_cons, Prod.mk.injEq, List.not_mem_nil, or_false] at hcP
    have hx : Heap.ExtBut P h h₃ := hx
    rcases hcP with ⟨rfl, rfl⟩ | ⟨rfl, rfl⟩ | ⟨rfl, rfl⟩
    · exact ⟨hcode, T2.keeps2 (hx _ · (by decide)) (hx _ · (by decide)), T3.keeps2 (hx _ · (by decide)) (hx _ · (by decide))⟩
    · exact ⟨T1.keeps2 (hx _ · (by decide)) (hx _ · (by decide)), hcode, T3.keeps2 (hx _ · (by decide)) (hx _ · (by decide))⟩
    · exact ⟨T1.keeps2 (hx _ · (by decide)) (hx _ · (by decide)), T2.keeps2 (hx _ · (by decide)) (hx _ · (by decide)), hcode⟩
  have F3 : WkT h₀ L cs h₃ h₃ m cm news := F.keptG (KeepsG.of fun b o nb e => hx b o (fun q => nb (q ▸ hP)) e) hT3
  refine bfor (F3.top X) hg ?_
  intro h4 hn4 hs4
  have sC : h₃.get? h₃.objs.size = none := get_size h₃
  have hsz : h4.objs.size = h₃.objs.size + 1 := by rw [hs4.1, Heap.size_push]
  have k4 : Keeps h₃ h4 := fun b o e => hs4.extBut b o (Nat.ne_of_lt (Heap.lt_size e)) (Heap.get?_push_of_some _ e)
  have sI : h₃.get? h4.objs.size = none := by
    cases e : h₃.get? h4.objs.size with
    | none => rfl
    | some o => have := Heap.lt_size e; rw [hsz] at this; exact absurd (Nat.lt_of_succ_lt this) (Nat.lt_irrefl _)
  have k5 : Keeps h₃ (h4.push { cls := .type "generator", data := .fields #[.int g.size 0, .str "<genexpr>" (tk + 1), .str (env.qual ++ "<genexpr>") (tk + 1 + 1)] }) := fun b o e => Heap.get?_push_of_some _ (k4 b o e)
  have old : ∀ a, h₃.get? a = none → a ∉ tabs → h.get? a = none := fun a e na => by
    cases q : h.get? a with
    | none => rfl
    | some o => rw [hx a o (fun r => na (r ▸ hPt)) q] at e; cases e
  refine k _ _ h4.objs.size h₃.objs.size code _ _ _ rfl (F3.kept k5).mark (F3.ownNew sI) (F3.ownNew sC) (by rw [hsz]; exact Nat.succ_ne_self _) (fun b o nb e => k5 b o (hx b o (fun r => nb (r ▸ hPt)) e)) (old _ sI (F3.ownNew sI).2.1) (old _ sC (F3.ownNew sC).2.1) (Heap.get?_push_size _ rfl)
    ⟨⟨hn4.push _, fun b o e => absurd (Heap.lt_size e) (Nat.not_lt_zero _), Nat.zero_le _⟩, News.nil, fun _ _ _ e => e⟩
end
end
end
section
local macro_rules | `(tactic| x_close) => `(tactic| first
  | exact $(Lean.mkIdent `hk) _ _ Keeps.refl
  | exact $(Lean.mkIdent `hk) _ _ (keeps_of_mem (by assumption))
  | exact $(Lean.mkIdent `hk) _ _ _ Keeps.refl
  | exact $(Lean.mkIdent `hk) _ _ _ (keeps_of_mem (by assumption))
  | (apply $(Lean.mkIdent `hk); assumption)
  | (exact $(Lean.mkIdent `hk) _ _ _ (keeps_of_mem (by assumption)) (X.Mem.nw (by assumption) _ (List.mem_cons_self ..)).1 (X.Mem.nw (by assumption) _ (List.mem_cons_self ..)).2)
)
local macro_rules | `(tactic| lcg_off) => `(tactic| (intro $(Lean.mkIdent `h) _ $(Lean.mkIdent `k); replace $(Lean.mkIdent `F) := Wk.kept $(Lean.mkIdent `F) $(Lean.mkIdent `k); clear $(Lean.mkIdent `k)))
local macro_rules | `(tactic| lcg_src) => `(tactic| (intro $(Lean.mkIdent `h) _ _ $(Lean.mkIdent `k); replace $(Lean.mkIdent `F) := Wk.kept $(Lean.mkIdent `F) $(Lean.mkIdent `k); clear $(Lean.mkIdent `k)))
local macro_rules | `(tactic| tb_rel) => `(tactic| first
  | (with_reducible show wpAny _ _ (eval (Expr.Name _ _) _) _ _ _; first
      | with_reducible refine wL $(Lean.mkIdent `F) (by with_unfolding_all first | rfl | assumption) ?_ (by with_unfolding_all rfl) (by with_unfolding_all rfl) (by with_unfolding_all rfl) (by with_unfolding_all decide)
      | with_reducible refine wGl $(Lean.mkIdent `X) $(Lean.mkIdent `F) (by with_unfolding_all rfl) ?_ (by with_unfolding_all rfl) (by with_unfolding_all rfl) (by with_unfolding_all rfl) (by with_unfolding_all rfl) (by with_unfolding_all decide))
  | (with_reducible show wpAny _ _ (eval _ _) _ _ _; first
      | with_reducible refine sub_sl ?_
      | with_reducible refine e_int ?_
      | with_reducible refine e_str ?_
      | with_reducible refine e_bool ?_
      | with_reducible refine e_none ?_
      | with_reducible refine wpAny_BinOp ?_
      | with_reducible refine wpAny_Compare1 ?_
      | with_reducible refine wpAny_UnaryOp ?_
      | with_reducible refine callN ?_
      | with_reducible refine sub_ix ?_
      | with_reducible refine s_ifx ?_
      | with_reducible refine Attribute_name ?_)
  | (with_reducible show wpAny _ _ (execs _ _) _ _ _; first
      | with_reducible refine s_cons ?_
      | with_reducible refine s_nil ?_)
  | (with_reducible show wpAny _ _ (exec _ _) _ _ _; first
      | with_reducible refine wpAny_Assert_holds ?_
      | with_reducible refine s_if ?_
      | with_reducible refine wpAny_Return_some ?_
      | with_reducible refine wpAny_Assign_Name ?_ (by with_unfolding_all rfl)
      | with_reducible refine wpAny_AugAssign_Name ?_
      | with_reducible refine s_for ?_ (by intro _; with_unfolding_all rfl)
      | with_reducible refine s_expr ?_)
  | (with_reducible show wpAny _ _ (storeName _ _ _) _ _ _; first
      | (with_reducible refine wstL $(Lean.mkIdent `F) ?_ (by with_unfolding_all rfl) (by with_unfolding_all rfl) (by with_unfolding_all rfl); clear $(Lean.mkIdent `F); intro _ _ $(Lean.mkIdent `F)))
  | (with_reducible show wpAny _ _ (loadName _ _) _ _ _; first
      | with_reducible refine wldL $(Lean.mkIdent `F) (by with_unfolding_all first | rfl | assumption) ?_ (by with_unfolding_all rfl) (by with_unfolding_all rfl) (by with_unfolding_all rfl))
  | (with_reducible show wpAny _ _ (spliced _) _ _ _; first
      | with_reducible refine wpAny_items_cons ?_ (by with_unfolding_all rfl)
      | with_reducible refine wpAny_items_nil ?_)
  | (with_reducible show wpAny _ _ (callWith _ _ _ _ _) _ _ _; first
      | with_reducible refine callB ?_ (by with_unfolding_all rfl) (by with_unfolding_all rfl)
      | with_reducible refine callT ?_ (by with_unfolding_all rfl) (by with_unfolding_all rfl)
      | with_reducible refine callKn $(Lean.mkIdent `X) (by kernel_rfl) ?_ (by with_unfolding_all rfl) (by with_unfolding_all rfl))
  | (with_reducible show wpAny _ _ (isTrue _ _ _) _ _ _; first
      | with_reducible refine wpAny_isTrue_Compare1 ?_
      | with_reducible refine wpAny_isTrue_Not ?_
      | with_reducible refine wpAny_isTrue_BoolOp ?_
      | with_reducible refine wpAny_isTrue_value ?_ (by with_unfolding_all rfl))
  | (with_reducible show wpAny _ _ (truthy _) _ _ _; first
      | with_reducible refine t_bool ?_
      | with_reducible refine t_int ?_)
  | (with_reducible show wpAny _ _ (compareOp _ _ _) _ _ _; first
      | with_reducible refine i_eq ?_
      | with_reducible refine i_ne ?_
      | with_reducible refine i_lt ?_
      | with_reducible refine i_gt ?_
      | with_reducible refine i_ge ?_
      | with_reducible refine is_nn ?_)
  | (with_reducible show wpAny _ _ (binaryOp _ _ _) _ _ _; first
      | (with_reducible refine n_and63 ?_; intro _ _)
      | (with_reducible refine n_and15 ?_; intro _ _)
      | (with_reducible refine n_and3 ?_; intro _ _)
      | (with_reducible refine n_or ?_; intro _ _)
      | (with_reducible refine n_shr2 ?_; intro _ _)
      | (with_reducible refine n_shr4 ?_; intro _ _)
      | (with_reducible refine n_shr6 ?_; intro _ _)
      | (with_reducible refine n_shl2 (by omega) ?_; intro _ _)
      | (with_reducible refine n_shl4 (by omega) ?_; intro _ _)
      | (with_reducible refine n_shl6 (by omega) ?_; intro _ _)
      | (with_reducible refine i_add ?_; intro _ _)
      | (with_reducible refine i_sub ?_; intro _ _)
      | (with_reducible refine i_and ?_; intro _ _)
      | (with_reducible refine i_or ?_; intro _ _)
      | (with_reducible refine i_xor ?_; intro _ _))
  | (with_reducible show wpAny _ _ (inplaceOp _ _ _) _ _ _; first
      | (with_reducible refine i_iand ?_; intro _ _)
      | (with_reducible refine i_ior ?_; intro _ _)
      | (with_reducible refine i_iadd ?_; intro _ _))
  | (with_reducible show wpAny _ _ (unaryOp _ _) _ _ _; first
      | (with_reducible refine i_neg ?_; intro _ _)
      | (with_reducible refine i_inv ?_; intro _ _))
  | (with_reducible show wpAny _ _ (evalPart _ _) _ _ _; first
      | with_reducible refine part0 ?_
      | with_reducible refine part1 ?_)
  | with_reducible refine seg_execs_cons ?_
  | with_reducible refine seg_Assign ?_
  | with_reducible refine seg_Aug ?_
  | with_reducible refine seg_Assert ?_
  | with_reducible refine seg_If ?_
  | with_reducible refine st_next ?_
  | with_reducible refine sbr_t ?_
  | with_reducible refine sbr_f ?_
  | with_reducible refine br_t ?_
  | with_reducible refine br_f ?_
  | with_reducible refine br_nt ?_
  | with_reducible refine br_nf ?_
  | with_reducible refine then_next ?_
  | with_reducible refine then_ret ?_
  | with_reducible refine retQ ?_
  | with_reducible refine And.intro (fun _ => Wk.top $(Lean.mkIdent `F) $(Lean.mkIdent `X)) ?_
  | with_reducible refine brE_t ?_
  | with_reducible refine brE_f ?_)
section
/-- ints by steps -/
theorem It.range {w : World} (I : Addr) (a c : Int) (n : Nat) :
    It w 1 Builtin.«range_iterator.__next__» "range_iterator" "range_iterator.__next__" I [I] [I] [] n (fun i v => ∃ u, v = .int (a + (i : Int) * c) u) (fun i s => IsRangeIter s.heap I (a + (i : Int) * c) ((n : Int) - i) c) where
  sub := fun _ h => h
  slot := F.slot_range_iterator_next
  entry := F.entry_range_iterator_next
  args := F.args_range_iterator_next_1 _
  live := fun i s st b hb => by simp at hb; exact ⟨_, hb ▸ st⟩
  ty := fun _ _ st => ⟨_, st, rfl⟩
  frame := fun i s s' st hk _ => hk I (by simp) _ st
  item := fun A hA i s Q E hi hit hQ => by
    show wpAny _ _ (field (.ref I) 0 >>= _) _ _ s
    refine wpAny_bind (wpAny_field hit rfl (x := rawInt (a + (i : Int) * c)) rfl ?_)
    show wpAny _ _ (field (.ref I) 1 >>= _) _ _ s
    refine wpAny_bind (wpAny_field hit rfl (x := rawInt ((n : Int) - i)) rfl ?_)
    show wpAny _ _ (field (.ref I) 2 >>= _) _ _ s
    refine wpAny_bind (wpAny_field hit rfl (x := rawInt c) rfl ?_)
    show wpAny _ _ (if ((n : Int) - i) ≤ 0 then _ else _) _ _ s
    rw [if_neg (by omega)]
    show wpAny _ _ (setField (.ref I) 0 (rawInt (a + (i : Int) * c + c)) >>= _) _ _ s
    refine wpAny_bind (wpAny_setField_rec hit (by simp) fun h₂ he₂ hs₂ => ?_)
    replace he₂ : IsRangeIter h₂ I (a + (i : Int) * c + c) ((n : Int) - i) c := he₂
    show wpAny _ _ (setField (.ref I) 1 (rawInt ((n : Int) - i - 1)) >>= _) _ _ _
    refine wpAny_bind (wpAny_setField_rec he₂ (by simp) fun h₃ he₃ hs₃ => ?_)
    replace he₃ : IsRangeIter h₃ I (a + (i : Int) * c + c) ((n : Int) - i - 1) c := he₃
    show wpAny _ _ (mkInt (a + (i : Int) * c) >>= _) _ _ _
    have hm : Mv [I] [] s { s with heap := h₃ } := (Mv.of_same hs₂ (by simp) he₂).trans (Mv.of_same (s := { s with heap := h₂ }) hs₃ (by simp) he₃)
    refine wpAny_bind (wpAny_mkInt (wpAny_pure (hQ _ _ ⟨_, rfl⟩ ?_ (hm.tok _))))
    have e1 : a + ((i + 1 : Nat) : Int) * c = a + (i : Int) * c + c := by push_cast; rw [Int.add_mul]; omega
    have e2 : (n : Int) - ((i + 1 : Nat) : Int) = (n : Int) - i - 1 := by omega
    show IsRangeIter h₃ I (a + ((i + 1 : Nat) : Int) * c) ((n : Int) - ((i + 1 : Nat) : Int)) c
    rw [e1, e2]; exact he₃
  done := fun A hA s Q E hit hE => by
    show wpAny _ _ (field (.ref I) 0 >>= _) _ _ s
    refine wpAny_bind (wpAny_field hit rfl (x := rawInt (a + (n : Int) * c)) rfl ?_)
    show wpAny _ _ (field (.ref I) 1 >>= _) _ _ s
    refine wpAny_bind (wpAny_field hit rfl (x := rawInt ((n : Int) - (n : Nat))) rfl ?_)
    show wpAny _ _ (field (.ref I) 2 >>= _) _ _ s
    refine wpAny_bind (wpAny_field hit rfl (x := rawInt c) rfl ?_)
    show wpAny _ _ (if ((n : Int) - (n : Nat)) ≤ 0 then _ else _) _ _ s
    rw [if_pos (by omega)]
    refine wpAny_bind (wpAny_rule ?_)
    refine wpAny_bind ?_
    exact stop_here hA fun e h' x k => hE e _ x (Mv.of_keeps k)
/-- the signs of an ascii text -/
theorem It.strA {w : World} (I : Addr) (x : Str) (t : Tok) (n : Nat) (hn : x.cps.size = n) :
    It w 1 Builtin.«str_ascii_iterator.__next__» "str_ascii_iterator" "str_ascii_iterator.__next__" I [I] [I] [] n (fun i v => ∃ c u, x.cps[i]? = some c ∧ v = .str ⟨#[c]⟩ u) (fun i s => s.heap.IsStrIter I "str_ascii_iterator" x t i) where
  sub := fun _ h => h
  slot := F.slot_str_ascii_iterator_next
  entry := F.entry_str_ascii_iterator_next
  args := F.args_str_ascii_iterator_next_1 _
  live := fun i s ⟨o, ho, _⟩ b hb => by simp at hb; exact ⟨o, hb ▸ ho⟩
  ty := fun _ _ h => h.typeIs
  frame := fun i s s' st hk _ => let ⟨o, ho, r⟩ := st; ⟨o, hk I (by simp) o ho, r⟩
  item := fun A hA i s Q E hi hit hQ => by
    obtain ⟨o, ho, hc, hd⟩ := id hit
    have hx : x.cps[i]? = some (x.cps[i]'(by omega)) := by simp
    show wpAny _ _ (field (.ref I) 0 >>= _) _ _ s
    refine wpAny_bind (wpAny_field ho hd (x := .str x t) rfl ?_)
    show wpAny _ _ (field (.ref I) 1 >>= _) _ _ s
    refine wpAny_bind (wpAny_field ho hd (x := .int i 0) rfl ?_)
    simp only [Int.toNat_natCast, hx]
    have ho' := Heap.get?_update_self (h := s.heap) (a := I) (Obj.mapFields (·.setIfInBounds 1 (rawInt ((i : Int) + 1)))) ho (Obj.isFreed_of_fields (Obj.data_mapFields hd _))
    refine wpAny_bind (wpAny_setField ho hd (by simp) (wpAny_bind (wpAny_mkStr (wpAny_pure (hQ _ _ ⟨_, _, hx, rfl⟩ ?_ ((Mv.of_same (Heap.SameBut.update ..) (by simp) ho').tok _))))))
    exact ⟨_, ho', (Obj.cls_mapFields ..).trans hc, by rw [Obj.data_mapFields hd]; simp [rawInt]⟩
  done := fun A hA s Q E hit hE => by
    obtain ⟨o, ho, hc, hd⟩ := id hit
    have hx : x.cps[n]? = none := by simp [hn]
    show wpAny _ _ (field (.ref I) 0 >>= _) _ _ s
    refine wpAny_bind (wpAny_field ho hd (x := .str x t) rfl ?_)
    show wpAny _ _ (field (.ref I) 1 >>= _) _ _ s
    refine wpAny_bind (wpAny_field ho hd (x := .int (n : Nat) 0) rfl ?_)
    simp only [Int.toNat_natCast, hx]
    have ho' := Heap.get?_update_self (h := s.heap) (a := I) (Obj.mapFields (·.setIfInBounds 0 .none)) ho (Obj.isFreed_of_fields (Obj.data_mapFields hd _))
    refine wpAny_bind (wpAny_rule (wpAny_bind (wpAny_setField ho hd (by simp) (wpAny_bind (wpAny_letGo ?_)))))
    refine stop_here hA fun e h' x k => hE e _ x ((Mv.of_same (Heap.SameBut.update ..) (by simp) ho').trans (Mv.of_keeps k))
section
variable {w : World} {A : Around} {n : Nat} {E : Value → Shared → Prop} {Q : Value → Shared → Prop} {h : Heap} {g : Array GenState} {d : Drawn} {t : Nat} {os : OsState}
theorem x_enumB {b : Array UInt8} {t1 : Tok} (X : Frag.In (K1 w.params) h) (hk : ∀ h' t' e I, Mem h h' [] [(e, ⟨.type "enumerate", none, .fields #[.none, .bool false, .ref I, rawInt 0, .none, .none], #[]⟩), (I, ⟨.type "bytes_iterator", none, .fields #[.bytes b t1, .int 0 0], #[]⟩)] → Q (.ref e) ⟨h', g, d, t', os⟩) :
    wpAny (model pg w) AX (call (.type "enumerate") [.bytes b t1]) Q E ⟨h, g, d, t, os⟩ := by x_run
theorem pyIter_ri {it : Addr} {x left step : Int} {s : Shared} (hit : IsRangeIter s.heap it x left step) (hq : Q (.ref it) s) : wpAny (model pg w) A (pyIter (.ref it)) Q E s := by
  have hT : s.TypeIs (.ref it) "range_iterator" := ⟨_, hit, rfl⟩
  refine wpAny_pyIter_slot hT F.slot_range_iterator_iter (wpAny_call_entry F.slot_range_iterator_iter hT F.entry_range_iterator_iter ?_ (F.args_range_iterator_iter_1 _))
  show wpAny _ _ (ret (.ref it)) _ _ s
  exact wpAny_pure ⟨_, rfl, "range_iterator", _, hT, F.slot_range_iterator_next.lookup, hq⟩
theorem wFr {h₀ hz : Heap} {L c : Addr} {m : Str → Option Value} {news : List (Addr × Obj)} {M : Model} {env : Env} {x : Str} {pos : Pos} {v : Value} {o : Obj} (F : Wk h₀ L hz h m news) (hm : (c, o) ∈ news) (ho : o.data = .cell (some v)) (hq : Q v ⟨h, g, d, t, os⟩)
    (hk : env.scope.kind = .function) (hl : env.kindOf x = some .free) (hc : env.cells.lookup x = some c) (hd : (x == ("__debug__" : Str)) = false) (hn : (x == ("__classdict__" : Str)) = false) :
    wpAny M A (eval (.Name x pos) env) Q E ⟨h, g, d, t, os⟩ := wpAny_Name (wpAny_loadName_free hk hl hc ⟨o, F.get hm, ho⟩ hq hn) hd
end
end
end
section
local macro_rules | `(tactic| x_close) => `(tactic| first
  | exact $(Lean.mkIdent `hk) _ _ Keeps.refl
  | exact $(Lean.mkIdent `hk) _ _ (keeps_of_mem (by assumption))
  | exact $(Lean.mkIdent `hk) _ _ _ Keeps.refl
  | exact $(Lean.mkIdent `hk) _ _ _ (keeps_of_mem (by assumption))
  | (apply $(Lean.mkIdent `hk); assumption)
  | (exact $(Lean.mkIdent `hk) _ _ _ (keeps_of_mem (by assumption)) (X.Mem.nw (by assumption) _ (List.mem_cons_self ..)).1 (X.Mem.nw (by assumption) _ (List.mem_cons_self ..)).2)
)
local macro_rules | `(tactic| lcg_off) => `(tactic| (intro $(Lean.mkIdent `h) _ $(Lean.mkIdent `k); (first | replace $(Lean.mkIdent `F) := WkT.kept $(Lean.mkIdent `F) $(Lean.mkIdent `k) | replace $(Lean.mkIdent `F) := Wk.kept $(Lean.mkIdent `F) $(Lean.mkIdent `k)); clear $(Lean.mkIdent `k)))
local macro_rules | `(tactic| lcg_src) => `(tactic| (intro $(Lean.mkIdent `h) _ _ $(Lean.mkIdent `k); (first | replace $(Lean.mkIdent `F) := WkT.kept $(Lean.mkIdent `F) $(Lean.mkIdent `k) | replace $(Lean.mkIdent `F) := Wk.kept $(Lean.mkIdent `F) $(Lean.mkIdent `k)); clear $(Lean.mkIdent `k)))
local macro_rules | `(tactic| tb_rel) => `(tactic| first
  | (with_reducible show wpAny _ _ (eval (Expr.Name _ _) _) _ _ _; first
      | with_reducible refine tL $(Lean.mkIdent `F) (by with_unfolding_all first | rfl | assumption) ?_ (by with_unfolding_all rfl) (by with_unfolding_all rfl) (by with_unfolding_all rfl) (by with_unfolding_all decide)
      | with_reducible refine tC $(Lean.mkIdent `F) (by with_unfolding_all first | rfl | assumption) ?_ (by with_unfolding_all rfl) (by with_unfolding_all rfl) (by with_unfolding_all rfl) (by with_unfolding_all rfl) (by with_unfolding_all decide)
      | with_reducible refine tGl $(Lean.mkIdent `X) $(Lean.mkIdent `F) (by with_unfolding_all rfl) ?_ (by with_unfolding_all rfl) (by with_unfolding_all rfl) (by with_unfolding_all rfl) (by with_unfolding_all rfl) (by with_unfolding_all decide)
      | with_reducible refine wL $(Lean.mkIdent `F) (by with_unfolding_all first | rfl | assumption) ?_ (by with_unfolding_all rfl) (by with_unfolding_all rfl) (by with_unfolding_all rfl) (by with_unfolding_all decide)
      | with_reducible refine wFr $(Lean.mkIdent `F) (by with_reducible assumption) (by with_unfolding_all first | rfl | assumption) ?_ (by with_unfolding_all rfl) (by with_unfolding_all rfl) (by with_unfolding_all rfl) (by with_unfolding_all decide) (by with_unfolding_all decide)
      | with_reducible refine wGl $(Lean.mkIdent `X) $(Lean.mkIdent `F) (by with_unfolding_all rfl) ?_ (by with_unfolding_all rfl) (by with_unfolding_all rfl) (by with_unfolding_all rfl) (by with_unfolding_all rfl) (by with_unfolding_all decide))
  | (with_reducible show wpAny _ _ (eval _ _) _ _ _; first
      | with_reducible refine sub_sl ?_
      | with_reducible refine e_int ?_
      | with_reducible refine e_str ?_
      | with_reducible refine e_bool ?_
      | with_reducible refine e_none ?_
      | with_reducible refine wpAny_BinOp ?_
      | with_reducible refine wpAny_Compare1 ?_
      | with_reducible refine wpAny_UnaryOp ?_
      | with_reducible refine callN ?_
      | with_reducible refine sub_ix ?_
      | with_reducible refine s_ifx ?_
      | with_reducible refine Attribute_name ?_)
  | (with_reducible show wpAny _ _ (execs _ _) _ _ _; first
      | with_reducible refine s_cons ?_
      | with_reducible refine s_nil ?_)
  | (with_reducible show wpAny _ _ (exec _ _) _ _ _; first
      | with_reducible refine wpAny_Assert_holds ?_
      | with_reducible refine s_if ?_
      | with_reducible refine wpAny_Return_some ?_
      | with_reducible refine wpAny_Assign_Name ?_ (by with_unfolding_all rfl)
      | with_reducible refine wpAny_AugAssign_Name ?_
      | with_reducible refine s_for ?_ (by intro _; with_unfolding_all rfl)
      | with_reducible refine s_expr ?_)
  | (with_reducible show wpAny _ _ (storeName _ _ _) _ _ _; first
      | (with_reducible refine tstL $(Lean.mkIdent `F) ?_ (by with_unfolding_all rfl) (by with_unfolding_all rfl) (by with_unfolding_all rfl); clear $(Lean.mkIdent `F); intro _ _ $(Lean.mkIdent `F))
      | (with_reducible refine tstC $(Lean.mkIdent `F) ?_ (by with_unfolding_all rfl) (by with_unfolding_all rfl) (by with_unfolding_all rfl) (by with_unfolding_all rfl); clear $(Lean.mkIdent `F); intro _ _ $(Lean.mkIdent `F))
      | (with_reducible refine wstL $(Lean.mkIdent `F) ?_ (by with_unfolding_all rfl) (by with_unfolding_all rfl) (by with_unfolding_all rfl); clear $(Lean.mkIdent `F); intro _ _ $(Lean.mkIdent `F)))
  | (with_reducible show wpAny _ _ (loadName _ _) _ _ _; first
      | with_reducible refine tldL $(Lean.mkIdent `F) (by with_unfolding_all first | rfl | assumption) ?_ (by with_unfolding_all rfl) (by with_unfolding_all rfl) (by with_unfolding_all rfl)
      | with_reducible refine tldC $(Lean.mkIdent `F) (by with_unfolding_all first | rfl | assumption) ?_ (by with_unfolding_all rfl) (by with_unfolding_all rfl) (by with_unfolding_all rfl) (by with_unfolding_all rfl)
      | with_reducible refine wldL $(Lean.mkIdent `F) (by with_unfolding_all first | rfl | assumption) ?_ (by with_unfolding_all rfl) (by with_unfolding_all rfl) (by with_unfolding_all rfl))
  | (with_reducible show wpAny _ _ (spliced _) _ _ _; first
      | with_reducible refine wpAny_items_cons ?_ (by with_unfolding_all rfl)
      | with_reducible refine wpAny_items_nil ?_)
  | (with_reducible show wpAny _ _ (callWith _ _ _ _ _) _ _ _; first
      | with_reducible refine callB ?_ (by with_unfolding_all rfl) (by with_unfolding_all rfl)
      | with_reducible refine callT ?_ (by with_unfolding_all rfl) (by with_unfolding_all rfl)
      | with_reducible refine callKn $(Lean.mkIdent `X) (by kernel_rfl) ?_ (by with_unfolding_all rfl) (by with_unfolding_all rfl))
  | (with_reducible show wpAny _ _ (isTrue _ _ _) _ _ _; first
      | with_reducible refine wpAny_isTrue_Compare1 ?_
      | with_reducible refine wpAny_isTrue_Not ?_
      | with_reducible refine wpAny_isTrue_BoolOp ?_
      | with_reducible refine wpAny_isTrue_value ?_ (by with_unfolding_all rfl))
  | (with_reducible show wpAny _ _ (truthy _) _ _ _; first
      | with_reducible refine t_bool ?_
      | with_reducible refine t_int ?_)
  | (with_reducible show wpAny _ _ (compareOp _ _ _) _ _ _; first
      | with_reducible refine i_eq ?_
      | with_reducible refine i_ne ?_
      | with_reducible refine i_lt ?_
      | with_reducible refine i_gt ?_
      | with_reducible refine i_ge ?_
      | with_reducible refine is_nn ?_)
  | (with_reducible show wpAny _ _ (binaryOp _ _ _) _ _ _; first
      | (with_reducible refine n_and63 ?_; intro _ _)
      | (with_reducible refine n_and15 ?_; intro _ _)
      | (with_reducible refine n_and3 ?_; intro _ _)
      | (with_reducible refine n_or ?_; intro _ _)
      | (with_reducible refine n_shr2 ?_; intro _ _)
      | (with_reducible refine n_shr4 ?_; intro _ _)
      | (with_reducible refine n_shr6 ?_; intro _ _)
      | (with_reducible refine n_shl2 (by omega) ?_; intro _ _)
      | (with_reducible refine n_shl4 (by omega) ?_; intro _ _)
      | (with_reducible refine n_shl6 (by omega) ?_; intro _ _)
      | (with_reducible refine i_add ?_; intro _ _)
      | (with_reducible refine i_sub ?_; intro _ _)
      | (with_reducible refine i_and ?_; intro _ _)
      | (with_reducible refine i_or ?_; intro _ _)
      | (with_reducible refine i_xor ?_; intro _ _))
  | (with_reducible show wpAny _ _ (inplaceOp _ _ _) _ _ _; first
      | (with_reducible refine i_iand ?_; intro _ _)
      | (with_reducible refine i_ior ?_; intro _ _)
      | (with_reducible refine i_iadd ?_; intro _ _))
  | (with_reducible show wpAny _ _ (unaryOp _ _) _ _ _; first
      | (with_reducible refine i_neg ?_; intro _ _)
      | (with_reducible refine i_inv ?_; intro _ _))
  | (with_reducible show wpAny _ _ (evalPart _ _) _ _ _; first
      | with_reducible refine part0 ?_
      | with_reducible refine part1 ?_)
  | with_reducible refine seg_execs_cons ?_
  | with_reducible refine seg_Assign ?_
  | with_reducible refine seg_Aug ?_
  | with_reducible refine seg_Assert ?_
  | with_reducible refine seg_If ?_
  | with_reducible refine st_next ?_
  | with_reducible refine sbr_t ?_
  | with_reducible refine sbr_f ?_
  | with_reducible refine br_t ?_
  | with_reducible refine br_f ?_
  | with_reducible refine br_nt ?_
  | with_reducible refine br_nf ?_
  | with_reducible refine then_next ?_
  | with_reducible refine then_ret ?_
  | with_reducible refine retQ ?_
  | with_reducible refine And.intro (fun _ => WkT.top $(Lean.mkIdent `F) $(Lean.mkIdent `X)) ?_
  | with_reducible refine And.intro (fun _ => Wk.top $(Lean.mkIdent `F) $(Lean.mkIdent `X)) ?_
  | with_reducible refine brE_t ?_
  | with_reducible refine brE_f ?_)
section
section
variable {w : World} {A : Around} {n : Nat} {E : Value → Shared → Prop} {Q : Value → Shared → Prop} {hp : Heap} {g : Array GenState} {d : Drawn} {t : Nat} {os : OsState} {p : EngP} {e : Addr} {chars : Array UInt8} {big : Bool} {t1 t2 : Tok}
theorem s_join {M : Model} {E : Value → Shared → Prop} {env : Env} {st : Stmt} {rest : List Stmt} {Q : Flow → Shared → Prop} {s : Shared} (J : Shared → Prop) (h1 : wpAny M A (exec st env) (fun f s => f = .next ∧ J s) E s) (h2 : ∀ s', J s' → wpAny M A (execs rest env) Q E s') : wpAny M A (execs (st :: rest) env) Q E s :=
  s_cons (wpAny_mono h1 (fun f s' q => by obtain ⟨rfl, q⟩ := q; exact then_next (h2 s' q)) fun _ _ q => q)
theorem at_if {M : Model} {E : Value → Shared → Prop} {env : Env} {t : PySem.Expr} {a b : List Stmt} {ps : Pos} {rest : List Stmt} {Q : Flow → Shared → Prop} {s : Shared} (h : wpAny M A (execs (.If t a b ps :: rest) env) Q E s) : wpAny M A (execs (.If t a b ps :: rest) env) Q E s := h
theorem at_for {M : Model} {E : Value → Shared → Prop} {env : Env} {t i : PySem.Expr} {a b : List Stmt} {ps : Pos} {rest : List Stmt} {Q : Flow → Shared → Prop} {s : Shared} (h : wpAny M A (execs (.For t i a b ps :: rest) env) Q E s) : wpAny M A (execs (.For t i a b ps :: rest) env) Q E s := h
def offN (big : Bool) (k : Nat) : Nat := if big then 60 - 6 * k else 6 * k
def dig11 (big : Bool) (x k : Nat) : Nat := (if big then x * 4 else x) / 2 ^ offN big k % 64
def rngObj (a b c : Int) (u1 u2 u3 : Tok) : Obj := ⟨.type "range", none, .fields #[.int a u1, .int b u2, .int c u3], #[]⟩
theorem i_range3 {h : Heap} {a b c : Int} {u1 u2 u3 : Tok} (hc : c ≠ 0) (hc' : c.natAbs < 1073741824) (k : ∀ h' t' r, Keeps h h' → h'.get? r = some (rngObj a b c u1 u2 u3) → h.get? r = none → Q (.ref r) ⟨h', g, d, t', os⟩) :
    wpAny (model pg w) A (call (.type "range") [.int a u1, .int b u2, .int c u3]) Q E ⟨h, g, d, t, os⟩ :=
  call_range_3 hc (k _ _ _ (fun b o e => Heap.get?_push_of_some _ e) (Heap.get?_push_size _ rfl) (get_size h)) (Or.inl (PyProof.noPylong_small hc'))
theorem pyIter_rng {a b c : Int} {u1 u2 u3 : Tok} {r : Addr} {h : Heap} (hr : h.get? r = some (rngObj a b c u1 u2 u3)) (hs : Builtin.Range.small a b c = true) (k : ∀ h' I, Keeps h h' → h'.get? I = some ⟨.type "range_iterator", none, .fields #[rawInt a, rawInt (Builtin.Range.rangeSize a b c), rawInt c], #[]⟩ → h.get? I = none → Q (.ref I) ⟨h', g, d, t, os⟩) :
    wpAny (model pg w) A (pyIter (.ref r)) Q E ⟨h, g, d, t, os⟩ :=
  wpAny_pyIter_range (s := ⟨h, g, d, t, os⟩) hr hs (k _ _ (fun b o e => Heap.get?_push_of_some _ e) (Heap.get?_push_size _ rfl) (get_size h))
theorem encint_ok {gb : BG} {x : Nat} (hA : AOk A 30) (X : Top w hp) (T : TabOk hp) (H : Eng (strike hp) p e chars big) (hx : x < 2 ^ 64)
   (hQ : ∀ h' (g' : BG) t' tk, KeepsG hp h' → TabOk h' → Q (.bytes (outArr (fun k => (chars.getD (dig11 big x k) 0).toNat) 11) tk) ⟨h', g', d, t', os⟩) :
   codeAny (model pg w) A (.call (.ref 256) ⟨[.ref e, .int (x : Int) t1, .int 64 t2], []⟩) (CodeQ Q E) ⟨hp, gb, d, t, os⟩ := by
  obtain ⟨g, bg⟩ := gb
  dsimp only
  refine call_fnC (n := 28) (binds := [("self", .ref e), ("value", .int (x : Int) t1), ("bits", .int 64 t2)]) hA X T fn256 (by rfl) (by rfl) (by rfl) (by decide) (by rfl) ?_
  intro h₁ t₁ L F hA'
  replace X := X.strike
  refine s_cons ?_
  repeat tb_rel
  refine ⟨decide_eq_true (by omega), ?_⟩
  repeat tb_rel
  refine i_mod (by decide) ?_
  intro _ _
  repeat ((fail_if_success (with_reducible refine at_if ?_)); tb_rel)
  refine s_join (fun s' => ∃ h' t' r m cm a b c u1 u2 u3 u4 V, s' = ⟨h', g, d, t', os⟩ ∧ WkT (strike hp) L [("value", L + 1)] h' h' m cm [(r, ⟨.type "range", none, .fields #[.int a u1, .int b u2, .int c u3], #[]⟩)] ∧ m "self" = some (.ref e) ∧ m "itr" = some (.ref r) ∧ cm "value" = some (.int V u4) ∧ V = ((if big then x * 4 else x : Nat) : Int) ∧
     a = (if big then 60 else 0) ∧ b = (if big then -6 else 66) ∧ c = (if big then -6 else 6)) ?_ ?_
  · repeat tb_rel
    refine ga_big (F.top X) (H.keep F.old) ?_
    intro _
    cases big with
    | true =>
      repeat tb_rel
      refine i_range3 (by decide) (by decide) ?_
      intro h t r k hr nr
      replace F := F.add k hr nr
      repeat tb_rel
      refine i_ishl (by decide) (by decide) (by omega) ?_
      intro _ _
      repeat tb_rel
      refine ⟨rfl, _, _, r, _, _, _, _, _, _, _, _, _, _, rfl, F.mark, by with_unfolding_all rfl, by with_unfolding_all rfl, by with_unfolding_all rfl, ?_, by decide, by decide, by decide⟩
      show (x : Int) * 4 = _
      rw [if_pos rfl]; omega
    | false =>
      repeat tb_rel
      refine i_range3 (by decide) (by decide) ?_
      intro h t r k hr nr
      replace F := F.add k hr nr
      repeat tb_rel
      refine ⟨rfl, _, _, r, _, _, _, _, _, _, _, _, _, _, rfl, F.mark, by with_unfolding_all rfl, by with_unfolding_all rfl, by with_unfolding_all rfl, rfl, by decide, by decide, by decide⟩
  · rintro s' ⟨h, t, r, m, cm, a, b, c, u1, u2, u3, u4, V, rfl, F, m1, m2, c1, hV, rfl, rfl, rfl⟩
    repeat tb_rel
    refine ga_enc64 (F.top X) (H.keep F.old) ?_
    intro _
    repeat tb_rel
    refine gx_make (cl := [("value", L + 1)]) ?_ hA'.room rfl rfl (by decide) rfl rfl (by intro _; rfl)
    repeat tb_rel
    refine pyIter_rng (r := r) (F.get (List.mem_cons_self ..)) ((by decide : ∀ b : Bool, Builtin.Range.small (if b = true then 60 else 0) (if b = true then -6 else 66) (if b = true then -6 else 6) = true) big) ?_
    intro h I k hI nI
    replace F := F.add k hI nI
    clear k nI
    subst hV
    refine gx_go 255 251 (by decide) F X rfl rfl ?_
    intro h' t' Ig C code nm qn cd hcd F' oI oC hne kp nIg nC hg FC
    have hCI : C ≠ I := fun x => by rw [x, hI] at nC; cases nC
    have hgI : Ig ≠ I := fun x => by rw [x, hI] at nIg; cases nIg
    replace F := F'
    clear F' hI nC nIg kp
    obtain ⟨oc, hoc, hdc⟩ := F.C.cell "value" (L + 1) (by rfl)
    rw [c1] at hdc
    have hri := F.get (List.mem_cons_self ..)
    have ow := F.own (List.mem_cons_self ..)
    have hCc : C ≠ L + 1 := fun x => oC.2.2.2 "value" (x ▸ List.mem_cons_self ..)
    have hIc : I ≠ L + 1 := fun x => ow.2.2.2 "value" (x ▸ List.mem_cons_self ..)
    have hgc : Ig ≠ L + 1 := fun x => oI.2.2.2 "value" (x ▸ List.mem_cons_self ..)
    have gst : GStx w 20 Ig g.size 11 (oP (dig11 big x)) [2, Ig, C, I, L + 1] [C, I] 0 ⟨h', g.push (.fresh cd), d, t', os⟩ := by
      subst hcd
      refine gstx_start (F.top X) hg ?_ fun s'' hs => seg_gs (seg_gl1 (C := C) (c := 1) (cc := 6) (P := fun i v => ∃ u, v = .int ((if big then 60 else 0) + (i : Int) * (if big then -6 else 6)) u) (fp0 := [I]) (wr0 := [I]) (news := [(L + 1, oc)]) (It.range (w := w) I (if big then 60 else 0) (if big then -6 else 6) 11) (over_gx (by omega)) rfl (by rfl) (by rfl) (by rfl) ?_ ?_ ?_ ?_ ?_ ?_ ?_ _ ?_ _ 0 s'' s'' (fun y => if y = ".0" then some (.ref I) else none) rfl (by omega) ?_ Mv.refl ?_) ?_
      · intro b hb
        simp only [List.mem_cons, List.not_mem_nil, or_false] at hb
        rcases hb with rfl | rfl
        · exact FC.liveL
        · exact ⟨_, hri⟩
      · simpa using hCI
      · simp
      · simp
      · simp
      · simp
      · simp
      · simp [hCc.symm, hIc.symm]
      · intro A' i v h g d t os m hA hi hP F hm
        obtain ⟨u, rfl⟩ := hP
        have hcell : (L + 1, oc) ∈ [(L + 1, oc)] := List.mem_cons_self ..
        repeat tb_rel
        refine i_shr (by split <;> omega) ?_
        intro _ _
        have e1 : ((if big = true then 60 else 0) + (i : Int) * (if big = true then -6 else 6)).toNat = offN big i := by unfold offN; cases big <;> simp <;> omega
        rw [e1, show (2 : Int) ^ offN big i = ((2 ^ offN big i : Nat) : Int) by push_cast; rfl, fdiv_nat]
        repeat tb_rel
        exact ⟨⟨_, rfl⟩, _, _, rfl, Keeps.refl⟩
      · obtain ⟨h2, g2, d2, t2, os2⟩ := s''
        have := hs I (by simp) _ hri
        rw [show rawInt (Builtin.Range.rangeSize (if big = true then 60 else 0) (if big = true then -6 else 66) (if big = true then -6 else 6)) = rawInt 11 by cases big <;> rfl] at this
        exact (by simpa using this)
      · obtain ⟨h2, g2, d2, t2, os2⟩ := s''
        exact (FC.new (o := oc) hoc hCc.symm (by rfl)).still hs (by simp) (by simp)
      · intro A E Q hq
        exact pyIter_ri (hs I (by simp) _ hri) hq
    repeat tb_rel
    refine up hA' (x_mapG (F.top X) hg ?_)
    intro h2 t2 z Tm D
    have kD := keeps_of_mem D
    have nz := D.nw _ (List.mem_cons_self ..)
    have nT := D.nw _ (List.mem_cons_of_mem _ (List.mem_cons_self ..))
    dsimp only at nz nT
    have i2 : (2 : Addr) ≠ I := fun x => by have := X 2 _ (eq2 w.params); rw [x, ow.1] at this; cases this
    have c2 : (2 : Addr) ≠ C := fun x => by have := X 2 _ (eq2 w.params); rw [x, oC.1] at this; cases this
    have W0 := It.genx (w := w) (c := 20) (by omega) (I := Ig) (g := g.size) (N := 11) (P := oP (dig11 big x)) (fp := [2, Ig, C, I, L + 1]) (wr := [C, I]) (by simp) (by simp) (by simp) (by simp [c2, i2]) (by simp [hne, hgI])
    have st := W0.frame 0 _ ⟨h2, g.push (.fresh cd), d, t2, os⟩ gst (fun b hb o e => kD b o e) (fun _ _ => rfl)
    have zw : z ∉ [C, I] := fun x => by obtain ⟨o, e⟩ := gst.live z x; rw [show (⟨h', g.push (.fresh cd), d, t', os⟩ : Shared).heap = h' from rfl, nz.2] at e; cases e
    have tw : Tm ∉ [C, I] := fun x => by obtain ⟨o, e⟩ := gst.live Tm x; rw [show (⟨h', g.push (.fresh cd), d, t', os⟩ : Shared).heap = h' from rfl, nT.2] at e; cases e
    have hq := (H.keep (F.old.trans kD)).w1
    have qw : p.q1 ∉ [C, I] := fun x => by
      have := H.w1
      simp only [List.mem_cons, List.not_mem_nil, or_false] at x
      rcases x with x | x
      · rw [x, oC.1] at this; cases this
      · rw [x, ow.1] at this; cases this
    repeat tb_rel
    refine bytes_map (p := p) (chars := chars) W0 (by omega) (hA'.less (by omega)) (fun i _ => Nat.mod_lt _ (by decide)) (by omega) hq H.size nz.1 nT.1 st ?_ zw tw qw ?_
    · intro b hb
      simp only [List.mem_cons, List.not_mem_nil, or_false] at hb
      rcases hb with rfl | rfl | rfl | rfl | rfl
      · exact ⟨_, st.two⟩
      · exact ⟨_, kD _ _ hg⟩
      · exact st.live _ (by simp)
      · exact st.live _ (by simp)
      · exact ⟨_, kD _ _ hoc⟩
    · intro s' tk mv
      obtain ⟨h3, g3, d3, t3, os3⟩ := s'
      obtain rfl : d3 = d := mv.drawn
      obtain rfl : os3 = os := mv.os
      replace F := WkT.mv (s := ⟨h2, g.push (.fresh cd), _, t2, _⟩) (s' := ⟨h3, g3, _, t3, _⟩) (F.kept kD).drop.mark mv (by
        intro a ha
        simp only [List.mem_cons, List.not_mem_nil, or_false] at ha
        rcases ha with rfl | rfl
        · exact oC
        · exact ow) (by simp)
      repeat tb_rel
      exact hQ _ ⟨g3, mv.bare (bg.push _)⟩ _ _ F.oldG F.T
end
section
variable {w : World} {A : Around} {n : Nat} {E : Value → Shared → Prop} {Q : Value → Shared → Prop} {hp : Heap} {g : Array GenState} {d : Drawn} {t : Nat} {os : OsState} {p : EngP} {e : Addr} {chars : Array UInt8} {big : Bool} {t1 t2 : Tok}
theorem enc64_ok {g : BG} {x : Nat} (hA : AOk A 32) (X : Top w hp) (T : TabOk hp) (H : Eng (strike hp) p e chars big) (hx : x < 2 ^ 64)
   (hQ : ∀ h' (g' : BG) t' tk, KeepsG hp h' → TabOk h' → Q (.bytes (outArr (fun k => (chars.getD (dig11 big x k) 0).toNat) 11) tk) ⟨h', g', d, t', os⟩) :
   wpAny (model pg w) A (call (.ref 291) [.ref e, .int (x : Int) t1]) Q E ⟨hp, g, d, t, os⟩ := by
  refine wpAny_call (call_fnC (n := 30) (binds := [("self", .ref e), ("value", .int (x : Int) t1)]) hA X T fn291 (by rfl) (by rfl) (by rfl) (by decide) (by rfl) ?_)
  intro h₁ t₁ L F hA'
  replace X := X.strike
  refine s_cons ?_
  repeat tb_rel
  refine or_f ?_
  repeat tb_rel
  refine ⟨decide_eq_false (by omega), ?_⟩
  refine or_f ?_
  repeat tb_rel
  refine ⟨decide_eq_false (by omega), ?_⟩
  refine or_nil ?_
  repeat tb_rel
  refine MethodCall_ ?_ (by rfl)
  repeat tb_rel
  refine gm_fn (f := 256) (F.top X) (H.keep F.old) (by kernel_rfl) (by kernel_rfl) (by kernel_rfl) ?_
  repeat tb_rel
  refine wpAny_call (encint_ok (hA'.less (by omega)) (F.top X) F.T (H.keep F.oldS) hx ?_)
  intro h g' _ _ k T'
  replace F := F.keptG k T'
  repeat tb_rel
  exact hQ _ _ _ _ F.oldG F.T
end
end
end
section
section
namespace Lay
open SetTable
/-- the walk of a clean lay -/
def lp (M : Nat) : Nat × Nat → Nat × Nat := fun q => leap M q.1 q.2
def it {α : Type} (f : α → α) : Nat → α → α
  | 0, a => a
  | n + 1, a => it f n (f a)
theorem it_add {α : Type} (f : α → α) : ∀ (m n : Nat) (a : α), it f (m + n) a = it f n (it f m a)
  | 0, n, a => by rw [Nat.zero_add]; rfl
  | m + 1, n, a => by rw [Nat.succ_add]; exact it_add f m n (f a)
theorem it_succ {α : Type} (f : α → α) (n : Nat) (a : α) : it f (n + 1) a = f (it f n a) := by rw [it_add]; rfl
def g5 (M : Nat) (x : Nat) : Nat := (x * 5 + 1) % (M + 1)
/-- every place is met -/
def Full (M : Nat) : Prop := (∀ j, j ≤ M → ∃ s, s ≤ M ∧ it (g5 M) s 0 = j) ∧ it (g5 M) (M + 1) 0 = 0
def orbit (M : Nat) : Nat → Nat → List Nat
  | 0, _ => []
  | n + 1, x => x :: orbit M n (g5 M x)
theorem orbit_mem (M : Nat) : ∀ (n x j : Nat), j ∈ orbit M n x → ∃ s, s < n ∧ it (g5 M) s x = j
  | 0, x, j, h => by cases h
  | n + 1, x, j, h => by
    rcases List.mem_cons.mp h with rfl | h
    · exact ⟨0, Nat.succ_pos _, rfl⟩
    · obtain ⟨s, hs, e⟩ := orbit_mem M n _ j h
      exact ⟨s + 1, Nat.succ_lt_succ hs, e⟩
def fullB (M : Nat) : Bool := (List.range (M + 1)).all (fun j => (orbit M (M + 1) 0).contains j) && (it (g5 M) (M + 1) 0 == 0)
theorem full_of {M : Nat} (h : fullB M = true) : Full M := by
  unfold fullB at h
  rw [Bool.and_eq_true] at h
  refine ⟨fun j hj => ?_, by simpa using h.2⟩
  have := List.all_eq_true.mp h.1 j (List.mem_range.mpr (by omega))
  obtain ⟨s, hs, e⟩ := orbit_mem M _ _ j (by simpa using this)
  exact ⟨s, by omega, e⟩
theorem full7 : Full 7 := full_of (by decide +kernel)
theorem full15 : Full 15 := full_of (by decide +kernel)
theorem full31 : Full 31 := full_of (by decide +kernel)
theorem full63 : Full 63 := full_of (by decide +kernel)
theorem full127 : Full 127 := full_of (by decide +kernel)
theorem full_from {M : Nat} (F : Full M) {i j : Nat} (hi : i ≤ M) (hj : j ≤ M) : ∃ s, s ≤ M ∧ it (g5 M) s i = j := by
  obtain ⟨a, ha, rfl⟩ := F.1 i hi
  obtain ⟨b, hb, rfl⟩ := F.1 j hj
  by_cases h : a ≤ b
  · exact ⟨b - a, by omega, by rw [← it_add]; congr 1; omega⟩
  · refine ⟨M + 1 + b - a, by omega, ?_⟩
    rw [← it_add, show a + (M + 1 + b - a) = (M + 1) + b by omega, it_add, F.2]
theorem lp_snd (M : Nat) : ∀ (n : Nat) (q : Nat × Nat), (it (lp M) n q).2 = q.2 / 32 ^ n
  | 0, q => by simp [it]
  | n + 1, q => by
    rw [it, lp_snd M n, Nat.pow_succ, Nat.mul_comm, ← Nat.div_div_eq_div_mul]; rfl
theorem lp_zero (M : Nat) : ∀ (n : Nat) (i : Nat), it (lp M) n (i, 0) = (it (g5 M) n i, 0)
  | 0, i => rfl
  | n + 1, i => by
    rw [it, it, show lp M (i, 0) = (g5 M i, 0) by simp [lp, leap, g5]]
    exact lp_zero M n _
theorem lp_le (M : Nat) : ∀ (n : Nat) (q : Nat × Nat), q.1 ≤ M → (it (lp M) n q).1 ≤ M
  | 0, q, h => h
  | n + 1, q, h => lp_le M n _ (Nat.le_of_lt_succ (Nat.mod_lt _ (Nat.succ_pos _)))
theorem meets {M : Nat} (F : Full M) {i p j : Nat} (hi : i ≤ M) (hp : p < 2 ^ 64) (hj : j ≤ M) : ∃ t, t < turns M ∧ (it (lp M) t (i, p)).1 = j := by
  have h13 : (it (lp M) 13 (i, p)).2 = 0 := by rw [lp_snd]; exact Nat.div_eq_of_lt (Nat.lt_of_lt_of_le hp (by decide))
  obtain ⟨s, hs, e⟩ := full_from F (lp_le M 13 (i, p) hi) hj
  refine ⟨13 + s, by unfold turns; omega, ?_⟩
  rw [it_add, show it (lp M) 13 (i, p) = ((it (lp M) 13 (i, p)).1, 0) from Prod.ext rfl h13, lp_zero]
  exact e
theorem free_some {M : Nat} {owner : Array (Option Nat)} {j : Nat} (hj : owner.getD j (some 0) = none) : ∀ (t fuel i p : Nat), t < fuel → (it (lp M) t (i, p)).1 = j → i ≤ M →
    ∃ r, layClean.free M owner fuel i p = some r ∧ owner.getD r (some 0) = none ∧ r ≤ M := by
  intro t
  induction t with
  | zero =>
    intro fuel i p hf e hi
    obtain ⟨fuel, rfl⟩ : ∃ n, fuel = n + 1 := ⟨fuel - 1, by omega⟩
    have e : i = j := e
    subst e
    unfold layClean.free
    cases hq : (List.range (runEnd M i + 1 - i)).find? (fun k => (owner.getD (i + k) (some 0)).isNone) with
    | some k =>
      have h1 := List.find?_some hq
      have h2 := List.mem_range.mp (List.mem_of_find?_eq_some hq)
      refine ⟨i + k, rfl, by simpa using h1, ?_⟩
      unfold runEnd at h2; split at h2 <;> omega
    | none =>
      have h1 := List.find?_eq_none.mp hq 0 (List.mem_range.mpr (by unfold runEnd; split <;> omega))
      rw [Nat.add_zero, hj] at h1
      exact absurd rfl h1
  | succ t ih =>
    intro fuel i p hf e hi
    obtain ⟨fuel, rfl⟩ : ∃ n, fuel = n + 1 := ⟨fuel - 1, by omega⟩
    unfold layClean.free
    cases hq : (List.range (runEnd M i + 1 - i)).find? (fun k => (owner.getD (i + k) (some 0)).isNone) with
    | some k =>
      have h1 := List.find?_some hq
      have h2 := List.mem_range.mp (List.mem_of_find?_eq_some hq)
      refine ⟨i + k, rfl, by simpa using h1, ?_⟩
      unfold runEnd at h2; split at h2 <;> omega
    | none => exact ih fuel (leap M i p).1 (leap M i p).2 (by omega) e (Nat.le_of_lt_succ (Nat.mod_lt _ (Nat.succ_pos _)))
theorem set_perm {k : Nat} : ∀ (l : List (Option Nat)) (j : Nat), l[j]? = some none → ((l.set j (some k)).filterMap id).Perm (k :: l.filterMap id)
  | [], j, h => by simp at h
  | x :: r, 0, h => by
    simp only [List.getElem?_cons_zero, Option.some.injEq] at h
    subst h
    simp
  | x :: r, j + 1, h => by
    simp only [List.getElem?_cons_succ] at h
    have ih := set_perm (k := k) r j h
    rw [List.set_cons_succ]
    cases x with
    | none => simpa using ih
    | some y =>
      simp only [List.filterMap_cons, id]
      exact (ih.cons y).trans (List.Perm.swap ..)
theorem fm_congr {α β : Type} {f g : α → Option β} : ∀ {l : List α}, (∀ x ∈ l, f x = g x) → l.filterMap f = l.filterMap g
  | [], _ => rfl
  | x :: r, h => by rw [List.filterMap_cons, List.filterMap_cons, h x (List.mem_cons_self ..), fm_congr fun y hy => h y (List.mem_cons_of_mem _ hy)]
theorem filterMap_le : ∀ (l : List (Option Nat)), (∀ (j : Nat) (x : Option Nat), l[j]? = some x → x ≠ none) → (l.filterMap id).length = l.length
  | [], _ => rfl
  | none :: r, h => absurd rfl (h 0 none rfl)
  | some y :: r, h => by
    simp only [List.filterMap_cons, id, List.length_cons]
    rw [filterMap_le r fun j x e => h (j + 1) x e]
theorem lay_fold {M : Nat} (F : Full M) : ∀ (hs : List Int) (owner : Array (Option Nat)) (k : Nat), owner.size = M + 1 → (owner.toList.filterMap id).Perm (List.range k) → k + hs.length ≤ M →
    ∃ owner', hs.foldl (fun acc h => do
      let (owner, k) ← acc
      let j ← layClean.free M owner (turns M) (bits h % (M + 1)) (bits h)
      pure (owner.setIfInBounds j (some k), k + 1)) (some (owner, k)) = some (owner', k + hs.length) ∧ owner'.size = M + 1 ∧ (owner'.toList.filterMap id).Perm (List.range (k + hs.length))
  | [], owner, k, hz, hp, hl => ⟨owner, rfl, hz, hp⟩
  | h :: hs, owner, k, hz, hp, hl => by
    rw [List.length_cons] at hl
    have hex : ∃ j : Nat, owner.toList[j]? = some none := by
      apply Classical.byContradiction
      intro hc
      have := filterMap_le owner.toList (fun j x e hx => hc ⟨j, hx ▸ e⟩)
      rw [hp.length_eq, List.length_range, Array.length_toList, hz] at this
      omega
    obtain ⟨j, hj⟩ := hex
    have hjM : j ≤ M := by
      have := (List.getElem?_eq_some_iff.mp hj).1
      rw [Array.length_toList, hz] at this
      omega
    have gd : ∀ r : Nat, r ≤ M → owner.getD r (some 0) = none → owner.toList[r]? = some none := by
      intro r hr e
      have hr' : r < owner.size := by omega
      rw [Array.getElem?_toList]
      simp only [Array.getD, hr', dite_true] at e
      rw [Array.getElem?_eq_getElem hr']
      exact congrArg some e
    have hj0 : owner.getD j (some 0) = none := by
      have hr' : j < owner.size := by omega
      rw [Array.getElem?_toList] at hj
      simp only [Array.getD, hr', dite_true]
      simpa [hr'] using hj
    obtain ⟨t, ht, e⟩ := meets F (i := bits h % (M + 1)) (p := bits h) (Nat.le_of_lt_succ (Nat.mod_lt _ (Nat.succ_pos _))) (by
      unfold bits
      have := Int.emod_lt_of_pos h (show (0 : Int) < 2 ^ 64 by decide)
      have h0 := Int.emod_nonneg h (show (2 ^ 64 : Int) ≠ 0 by decide)
      omega) hjM
    obtain ⟨r, hr, hr0, hrM⟩ := free_some hj0 t (turns M) _ _ ht e (Nat.le_of_lt_succ (Nat.mod_lt _ (Nat.succ_pos _)))
    have hp' : ((owner.setIfInBounds r (some k)).toList.filterMap id).Perm (List.range (k + 1)) := by
      rw [Array.toList_setIfInBounds, List.range_succ]
      refine (set_perm _ _ (gd r hrM hr0)).trans ?_
      exact (List.Perm.cons k hp).trans (List.perm_append_comm (l₁ := [k]) (l₂ := List.range k))
    obtain ⟨o', h1, h2, h3⟩ := lay_fold F hs (owner.setIfInBounds r (some k)) (k + 1) (by simpa using hz) hp' (by omega)
    refine ⟨o', ?_, h2, ?_⟩
    · rw [List.foldl_cons]
      simp only [Option.bind_eq_bind, Option.bind_some, hr, Option.pure_def]
      rw [List.length_cons, show k + (hs.length + 1) = k + 1 + hs.length by omega]
      exact h1
    · rw [List.length_cons, show k + (hs.length + 1) = k + 1 + hs.length by omega]; exact h3
theorem live_snd (owner : Array (Option Nat)) (n : Nat) (hz : owner.size = n) : ((List.range n).filterMap (fun j => (owner.getD j none).map (j, ·))).map (·.2) = owner.toList.filterMap id := by
  have : ∀ (l : List (Option Nat)) (k : Nat), ((List.range' k l.length).filterMap (fun j => ((l[j - k]?).getD none).map (j, ·))).map (·.2) = l.filterMap id := by
    intro l
    induction l with
    | nil => intro k; rfl
    | cons x r ih =>
      intro k
      rw [List.length_cons, List.range'_succ, List.filterMap_cons]
      have hr : (List.range' (k + 1) r.length).filterMap (fun j => (((x :: r)[j - k]?).getD none).map (j, ·)) = (List.range' (k + 1) r.length).filterMap (fun j => ((r[j - (k + 1)]?).getD none).map (j, ·)) := by
        apply fm_congr
        intro j hj
        have := (List.mem_range'_1.mp hj).1
        rw [show j - k = (j - (k + 1)) + 1 by omega, List.getElem?_cons_succ]
      cases x with
      | none =>
        simp only [Nat.sub_self, List.getElem?_cons_zero, Option.getD_some, Option.map_none, List.filterMap_cons, id]
        rw [hr, ih]
      | some y =>
        simp only [Nat.sub_self, List.getElem?_cons_zero, Option.getD_some, Option.map_some, List.filterMap_cons, id, List.map_cons]
        rw [hr, ih]
  have h0 := this owner.toList 0
  rw [← h0, Array.length_toList, hz, List.range_eq_range']
  congr 1
  apply fm_congr
  intro j hj
  have hj' : j < owner.size := by have := (List.mem_range'_1.mp hj).2; omega
  rw [Nat.sub_zero, Array.getElem?_toList]
  simp [Array.getD, hj']
theorem laid_ok {M : Nat} (F : Full M) (fi mo : Nat) (led plain : Bool) (hs : Array Int) (hn : hs.size ≤ M) :
    ∃ t order, laid M fi mo led plain hs = some (t, order) ∧ t.mask = M ∧ t.fits hs.size = true ∧ t.fill = hs.size ∧ order.toList.Perm (List.range hs.size) := by
  obtain ⟨o', h1, h2, h3⟩ := lay_fold F hs.toList (Array.replicate (M + 1) none) 0 (by simp) (by
    rw [Array.toList_replicate]
    have : ∀ n, ((List.replicate n (none : Option Nat)).filterMap id) = [] := fun n => by induction n with | zero => rfl | succ n ih => rw [List.replicate_succ]; simpa using ih
    rw [this]; exact List.Perm.nil) (by simpa using hn)
  rw [Nat.zero_add, Array.length_toList] at h1 h3
  have hl : layClean M hs = some o' := by
    unfold layClean
    rw [← Array.foldl_toList]
    exact congrArg (Option.map Prod.fst) h1
  have hsnd := live_snd o' (M + 1) h2
  have hlen : ((List.range (M + 1)).filterMap (fun j => (o'.getD j none).map (j, ·))).length = hs.size := by
    have := congrArg List.length hsnd
    rw [List.length_map, h3.length_eq, List.length_range] at this
    exact this
  refine ⟨_, _, by unfold laid; rw [hl]; rfl, rfl, ?_, ?_, ?_⟩
  · simp only [fits, SetTable.fill, Bool.and_eq_true, beq_iff_eq, decide_eq_true_eq, List.size_toArray, List.length_map, Array.size_empty, Nat.add_zero]
    exact ⟨hlen, by rw [hlen]; exact hn⟩
  · simp only [SetTable.fill, List.size_toArray, List.length_map, Array.size_empty, Nat.add_zero]
    exact hlen
  · rw [List.toList_toArray, hsnd]; exact h3
theorem order_perm {α : Type} {order : Array Nat} {es : Array α} (h : order.toList.Perm (List.range es.size)) : (order.filterMap (es[·]?)).toList.Perm es.toList := by
  rw [Array.toList_filterMap]
  refine (h.filterMap _).trans ?_
  rw [PySem.filterMap_getElem?_range]
end Lay
end
section
abbrev Kx := Int ⊕ Str
def mixKind (w : World) : KeyKind pg w Kx where
  is := fun k v => match k with | .inl i => v.isInt i | .inr x => v.isStrOf x
  hash := fun k => match k with | .inl i => hashInt i | .inr x => hashStr w x
  inj := fun v a b ha hb => by
    cases a <;> cases b
    · exact congrArg _ (Value.isInt_inj v _ _ ha hb)
    · obtain ⟨t, rfl⟩ := Value.isInt_shape ha; cases hb
    · obtain ⟨t, rfl⟩ := Value.isInt_shape hb; cases ha
    · exact congrArg _ (Value.isStrOf_inj v _ _ ha hb)
  byValue := fun k v h => by
    cases k
    · exact (intKind pg w).byValue _ _ h
    · exact (strKind pg w).byValue _ _ h
  pyHash := fun {A E s k v Q} hv h => by
    cases k
    · exact (intKind pg w).pyHash hv h
    · exact (strKind pg w).pyHash hv h
  eqBool := fun {A E s a b u v Q} hu hv h => by
    cases a <;> cases b
    · refine (intKind pg w).eqBool hu hv ?_; simpa using h
    · obtain ⟨t, rfl⟩ := Value.isInt_shape hu
      obtain ⟨t', rfl⟩ := Value.isStrOf_shape hv
      exact SeqAt.EqAt.int_str _ _ _ _ _ _ _ _ (by simpa using h)
    · obtain ⟨t, rfl⟩ := Value.isStrOf_shape hu
      obtain ⟨t', rfl⟩ := Value.isInt_shape hv
      exact SeqAt.EqAt.str_int _ _ _ _ _ _ _ _ (by simpa using h)
    · refine (strKind pg w).eqBool hu hv ?_; simpa using h
  «strs» := fun k x t v h => by
    cases k
    · simp [Value.isInt] at h
    · exact (strKind pg w).«strs» _ x t v h
theorem mix_int (w : World) (i : Int) (t : Tok) : (mixKind w).is (.inl i) (.int i t) = true := intKind_is pg w i t
theorem mix_str (w : World) (x : Str) (t : Tok) : (mixKind w).is (.inr x) (.str x t) = true := strKind_is pg w x t
section
variable {w : World} {A : Around} {c : Nat} {b : Builtin} {T id : String} {I S : Addr} {fp wr : List Addr} {gr : List Nat} {n : Nat} {P : Nat → Value → Prop} {St : Nat → Shared → Prop} {E : Value → Shared → Prop} {K : Type} [DecidableEq K] {knd : KeyKind pg w K}
def met (S0 : K → Bool) (key : Nat → K) (i : Nat) : K → Bool := fun k => S0 k || (List.range i).any (fun j => decide (k = key j))
theorem met_succ (S0 : K → Bool) (key : Nat → K) (i : Nat) : met S0 key (i + 1) = fun k => met S0 key i k || decide (k = key i) := by
  funext k; unfold met; rw [List.range_succ, List.any_append]; simp [Bool.or_assoc]
theorem met_zero (S0 : K → Bool) (key : Nat → K) : met S0 key 0 = S0 := by funext k; simp [met]
def HasSet (knd : KeyKind pg w K) (h : Heap) (a : Addr) (S : K → Bool) (n : Nat) : Prop := ∃ m, m ≤ n ∧ h.SetOf knd a S m
theorem HasSet.at' {h h' : Heap} {a : Addr} {S : K → Bool} {n : Nat} (x : HasSet knd h a S n) (k : ∀ o, h.get? a = some o → h'.get? a = some o) : HasSet knd h' a S n :=
  let ⟨m, hm, o, es, ep, t, ho, r⟩ := x; ⟨m, hm, o, es, ep, t, k _ ho, r⟩
theorem set_loop {R : Result → Shared → Prop} (W : It w c b T id I fp wr gr n P St) (hA : AOk A (c + 2)) (key : Nat → K) (hkey : ∀ i v, i < n → P i v → knd.is (key i) v = true ∧ v.scannable = true) (hS : S ∉ fp) (S0 : K → Bool) (n0 : Nat) (hn : n0 + n < 4000) :
    ∀ (k i : Nat) (s : Shared), n - i = k → i ≤ n → St i s → HasSet knd s.heap S (met S0 key i) (n0 + i) →
      (∀ s', Mv (S :: wr) gr s s' → HasSet knd s'.heap S (met S0 key n) (n0 + n) → R (.ok (.ret .none)) s') →
      codeAny (model pg w) A (.builtin "set.update.loop" ⟨[.ref S, .ref I], []⟩) R s := by
  intro k
  induction k with
  | zero =>
    intro i s hk hi hst hH hR
    obtain rfl : i = n := by omega
    refine codeAny_builtin F.entry_set_update_loop ?_
    rw [Around.under_plainId F.plain_set_update_loop _]
    show wpAny _ A.in1 (pyNext (.ref I) >>= _) _ _ s
    refine wpAny_bind (W.py_done (AOk.in1 hA) hst fun s' mv => ?_)
    show wpAny _ A.in1 (ret Value.none) _ _ s'
    exact wpAny_pure (hR s' (mv.mono (fun b hb => List.mem_cons_of_mem _ hb) (fun _ h => h)) (hH.at' fun o e => mv.keep S o (fun q => hS (W.sub _ q)) e))
  | succ k ih =>
    intro i s hk hi hst hH hR
    have hlt : i < n := by omega
    refine codeAny_builtin F.entry_set_update_loop ?_
    rw [Around.under_plainId F.plain_set_update_loop _]
    show wpAny _ A.in1 (pyNext (.ref I) >>= _) _ _ s
    refine wpAny_bind (W.py_item (AOk.in1 hA) hlt hst fun v s' p st' mv => ?_)
    obtain ⟨hk1, hk2⟩ := hkey i v hlt p
    obtain ⟨m, hm, hS'⟩ := hH.at' (h' := s'.heap) fun o e => mv.keep S o (fun q => hS (W.sub _ q)) e
    show wpAny _ A.in1 (holding [v] (setAdd S v) >>= _) _ _ s'
    refine wpAny_bind (wpAny_holding ?_)
    unfold setAdd
    refine wpAny_holding ?_
    refine wpAny_bind (knd.pyHash hk1 ?_)
    refine wpAny_setAddHashed_of (knd := knd) (s := { s' with toks := s'.toks + 1 }) hk1 hk2 hS' (by unfold scanBound; omega) fun h' hsb hS2 => ?_
    have hl : ∃ o, h'.get? S = some o := let ⟨o, _, _, _, e, _⟩ := hS2; ⟨o, e⟩
    obtain ⟨oS, hoS⟩ := hl
    refine wpAny_pure ⟨plainId_quiet F.plain_set_update_loop _, ih (i + 1) _ (by omega) hlt (W.frame _ s' _ st' (fun b hb o e => hsb.extBut b o (fun q => hS (q ▸ hb)) e) (fun _ _ => rfl)) ⟨_, ?_, by rw [met_succ]; exact hS2⟩ fun s'' mv'' hH'' => ?_⟩
    · split <;> omega
    · refine hR s'' ((mv.mono (fun b hb => List.mem_cons_of_mem _ hb) (fun _ h => h)).trans (Mv.trans ?_ mv'')) hH''
      exact (Mv.of_same (s := s') hsb (List.mem_cons_self ..) hoS).tok _
theorem upd_from {cid : String} {other : Value} {To : String} {Q : Unit → Shared → Prop} {s : Shared} (hT : s.TypeIs other To) (h1 : isSubtype (.type To) (.type "set") = pure false) (h2 : isSubtype (.type To) (.type "frozenset") = pure false) (h3 : (Value.type To == Value.type "dict") = false)
    (h : wpAny (model pg w) A (pyIter other) (fun it s₁ => codeAny (model pg w) A (.builtin "set.update.loop" ⟨[.ref S, it], []⟩) (fun r s' => r = .ok (.ret .none) ∧ Q () s') s₁) E s) : wpAny (model pg w) A (Builtin.Frozenset.updateFrom cid S other) Q E s := by
  unfold Builtin.Frozenset.updateFrom Builtin.Frozenset.isAnySet
  refine wpAny_bind ?_
  refine wpAny_bind (wpAny_isInstance hT h1 ?_)
  refine wpAny_isInstance hT h2 ?_
  refine KFB.if_not rfl ?_
  refine wpAny_bind (wpAny_typeOf hT ?_)
  refine KFB.if_not h3 ?_
  refine wpAny_bind (wpAny_mono h (fun it s₁ h₁ => wpAny_bind (wpAny_runValue (codeAny_mono h₁ fun r s' q => ?_))) fun _ _ e => e)
  obtain ⟨rfl, q⟩ := q
  exact wpAny_pure q
end
end
section
section
variable {w : World} {A : Around} {E : Value → Shared → Prop} {K : Type} [DecidableEq K] {knd : KeyKind pg w K}
def setObj (led : Bool) : Obj := { cls := .type "set", dict := none, data := .set #[] 0 (.fresh 0 0 led) }
theorem HasSet.fresh {h : Heap} {a : Addr} {led : Bool} (e : h.get? a = some (setObj led)) : HasSet knd h a (fun _ => false) 0 :=
  ⟨0, Nat.le_refl _, _, #[], 0, _, e, ⟨rfl, rfl, rfl⟩, rfl, fun x hx => (by simp at hx), fun k => ⟨fun x => (by cases x), fun ⟨e, he, _⟩ => (by simp at he)⟩, by decide, rfl, rfl⟩
theorem set_new {n : Nat} {other : Value} {Q : Value → Shared → Prop} {s : Shared} (hA : AOk A (n + 6))
    (hup : ∀ A' led, AOk A' n → wpAny (model pg w) A' (Builtin.Frozenset.updateFrom "set.__init__" s.heap.objs.size other) (fun _ s' => Q (.ref s.heap.objs.size) s' ∧ s'.TypeIs (.ref s.heap.objs.size) "set") E { s with heap := s.heap.push (setObj led) }) :
    wpAny (model pg w) A (call (.type "set") [other]) Q E s := by
  obtain ⟨c, tl, hmro⟩ := PySem.F.called_set.mro
  have hmade := PySem.F.called_set.made
  have hsub := PySem.F.called_set.sub
  refine wpAny_call (codeAny_of_tree ?_)
  show wpAny _ _ (callAny (.type "set") _) _ _ _
  refine wpAny_pure ⟨Code.quiet_builtin _ (by decide +kernel), codeAny_builtin PySem.F.entry_type_call ?_⟩
  rw [Around.under_plain (weight_type_call_type "set" [other] []) rfl]
  have h1 := PySem.F.called_set.notType
  have h2 := PySem.F.called_set.canCreate
  have hct := PySem.F.typeCall_set_1 other
  repeat (any_goals (first | assumption | wp_step))
  refine codeAny_mono (code_set_new_1 other (E := E) (Q₁ := fun obj s₁ => ∃ led : Bool, obj = .ref s.heap.objs.size ∧ s₁ = { s with heap := s.heap.push (setObj led) }) fun led => ⟨led, rfl, rfl⟩) fun r s₁ hr => ?_
  cases r with
  | error e => exact hr
  | ok fl =>
    cases fl with
    | ret obj =>
      obtain ⟨led, rfl, rfl⟩ := hr
      have hS : (s.heap.push (setObj led)).get? s.heap.objs.size = some (setObj led) := Heap.get?_push_size _ rfl
      have hT : Shared.TypeIs { s with heap := s.heap.push (setObj led) } (.ref s.heap.objs.size) "set" := ⟨_, hS, rfl⟩
      have hli := PySem.F.called_set.init.lookup
      have hbi := PySem.F.called_set.init.bind (.ref s.heap.objs.size)
      repeat (any_goals (first | assumption | wp_step))
      refine codeAny_mono (codeAny_call_builtin (R := wants (fun r s₂ => r = .none ∧ Q (.ref s.heap.objs.size) s₂) E) PySem.F.called_set.init.plain PySem.F.entry_set_init (check_set_init_1 hT ?_)) fun r₂ s₂ hr₂ => ?_
      · have hup' := hup A.in1.in1 led (AOk.in1 (AOk.in1 (hA.less (by omega))))
        show wpAny _ A.in1.in1 (Builtin.«set.__init__» ⟨[.ref s.heap.objs.size, other], []⟩) _ _ _
        generalize hS0 : s.heap.push (setObj led) = H0 at hS hT hup' ⊢
        generalize s.heap.objs.size = a at hS hT hup' ⊢
        unfold Builtin.«set.__init__» noKeywords
        generalize hPI : Builtin.Frozenset.updateFrom = PI at hup' ⊢
        unfold setObj at hS
        wp_walk
        exact wpAny_mono hup' (fun _ s' q => wpAny_pure ⟨rfl, q.1⟩) fun _ _ e => e
      · cases r₂ with
        | error e => exact hr₂
        | ok fl₂ =>
          cases fl₂ with
          | ret r =>
            obtain ⟨rfl, hq⟩ := hr₂
            repeat (any_goals (first | assumption | wp_step))
          | _ => exact hr₂.elim
    | _ => exact hr.elim
theorem Mv.fresh {wr : List Addr} {gr : List Nat} {s s' : Shared} {S : Addr} {h1 : Heap} (hS : s.heap.get? S = none) (k : Keeps s.heap h1) (m : Mv (S :: wr) gr { s with heap := h1 } s') : Mv wr gr s s' :=
  ⟨fun b o nb e => m.keep b o (fun q => (List.mem_cons.mp q).elim (fun x => by rw [x, hS] at e; cases e) nb) (k b o e), fun b o e => m.live b o (k b o e), m.gsz, m.gens, m.drawn, m.os, m.bare⟩
/-- a set of what an iterator hands out -/
theorem set_of {c : Nat} {b : Builtin} {T id : String} {I : Addr} {fp wr : List Addr} {gr : List Nat} {n : Nat} {P : Nat → Value → Prop} {St : Nat → Shared → Prop} {Q : Value → Shared → Prop} {s : Shared} (W : It w c b T id I fp wr gr n P St) (hA : AOk A (c + 8))
    (h1 : isSubtype (.type T) (.type "set") = pure false) (h2 : isSubtype (.type T) (.type "frozenset") = pure false) (h3 : (Value.type T == Value.type "dict") = false)
    (hself : ∀ (A : Around) (E : Value → Shared → Prop) (s : Shared) (Q : Value → Shared → Prop), St 0 s → Q (.ref I) s → wpAny (model pg w) A (pyIter (.ref I)) Q E s)
    (key : Nat → K) (hkey : ∀ i v, i < n → P i v → knd.is (key i) v = true ∧ v.scannable = true) (hn : n < 4000) (st : St 0 s) (hfp : ∀ b ∈ fp, ∃ o, s.heap.get? b = some o)
    (hQ : ∀ s' a, s.heap.get? a = none → Mv wr gr s s' → HasSet knd s'.heap a (met (fun _ => false) key n) n → Q (.ref a) s') : wpAny (model pg w) A (call (.type "set") [.ref I]) Q E s := by
  refine set_new (n := c + 2) hA fun A' led hA' => ?_
  have hS0 := get_size s.heap
  have kp : Keeps s.heap (s.heap.push (setObj led)) := fun b o e => Heap.get?_push_of_some _ e
  have st' : St 0 { s with heap := s.heap.push (setObj led) } := W.frame _ s _ st (fun b _ o e => kp b o e) (fun _ _ => rfl)
  have hSf : s.heap.objs.size ∉ fp := fun q => by obtain ⟨o, e⟩ := hfp _ q; rw [hS0] at e; cases e
  refine upd_from (W.ty _ _ st') h1 h2 h3 (hself _ _ _ _ st' ?_)
  refine set_loop W hA' key hkey hSf (fun _ => false) 0 (by omega) n 0 _ rfl (Nat.zero_le _) st' ?_ fun s' mv hs => ⟨rfl, hQ s' _ hS0 (Mv.fresh hS0 kp mv) (by rw [Nat.zero_add] at hs; exact hs), ?_⟩
  · rw [met_zero]; exact HasSet.fresh (Heap.get?_push_size _ rfl)
  · obtain ⟨m, _, hs⟩ := hs; exact hs.typeIs
/-- a set of a value that makes its own iterator -/
theorem set_of_val {c : Nat} {b : Builtin} {T id : String} {To : String} {other : Value} {n : Nat} {P : Nat → Value → Prop} {Q : Value → Shared → Prop} {s : Shared} (hA : AOk A (c + 8))
    (h1 : isSubtype (.type To) (.type "set") = pure false) (h2 : isSubtype (.type To) (.type "frozenset") = pure false) (h3 : (Value.type To == Value.type "dict") = false)
    (hT : ∀ s : Shared, s.TypeIs other To)
    (hmake : ∀ (A : Around) (E : Value → Shared → Prop) (s : Shared) (Q : Value → Shared → Prop), (∀ h' I fp wr St, Keeps s.heap h' → s.heap.get? I = none → (∀ b ∈ fp, s.heap.get? b = none) → It w c b T id I fp wr [] n P St → St 0 { s with heap := h' } → Q (.ref I) { s with heap := h' }) → wpAny (model pg w) A (pyIter other) Q E s)
    (key : Nat → K) (hkey : ∀ i v, i < n → P i v → knd.is (key i) v = true ∧ v.scannable = true) (hn : n < 4000)
    (hQ : ∀ h' t' a, s.heap.get? a = none → Keeps s.heap h' → HasSet knd h' a (met (fun _ => false) key n) n → Q (.ref a) { s with heap := h', toks := t' }) : wpAny (model pg w) A (call (.type "set") [other]) Q E s := by
  refine set_new (n := c + 2) hA fun A' led hA' => ?_
  have hS0 := get_size s.heap
  have kp : Keeps s.heap (s.heap.push (setObj led)) := fun b o e => Heap.get?_push_of_some _ e
  have hS1 : (s.heap.push (setObj led)).get? s.heap.objs.size = some (setObj led) := Heap.get?_push_size _ rfl
  refine upd_from (hT _) h1 h2 h3 (hmake _ _ _ _ fun h1 I fp wr St k1 nI nfp W st => ?_)
  have hSf : s.heap.objs.size ∉ fp := fun q => by have := nfp _ q; rw [hS1] at this; cases this
  refine set_loop W hA' key hkey hSf (fun _ => false) 0 (by omega) n 0 _ rfl (Nat.zero_le _) st ?_ fun s' mv hs => ⟨rfl, ?_, ?_⟩
  · rw [met_zero]; exact HasSet.fresh (k1 _ _ hS1)
  · obtain ⟨h', g', d', t', os'⟩ := s'
    obtain rfl : g' = s.gens := Array.ext_getElem? fun i => mv.gens i (by simp)
    obtain rfl : d' = s.drawn := mv.drawn
    obtain rfl : os' = s.os := mv.os
    refine hQ h' t' _ hS0 (fun b o e => mv.keep b o (fun q => ?_) (k1 b o (kp b o e))) (by rw [Nat.zero_add] at hs; exact hs)
    rcases List.mem_cons.mp q with x | q
    · rw [x, hS0] at e; cases e
    · have := nfp _ (W.sub _ q); rw [kp b o e] at this; cases this
  · obtain ⟨m, _, hs⟩ := hs; exact hs.typeIs
end
end
section
theorem pigeon {K V : Type} (is : K → V → Bool) (inj : ∀ v a b, is a v = true → is b v = true → a = b) : ∀ (ks : List K) (l : List V), ks.Nodup → (∀ k ∈ ks, ∃ e ∈ l, is k e = true) → ks.length ≤ l.length
  | [], l, _, _ => Nat.zero_le _
  | k :: ks, l, hn, h => by
    obtain ⟨hk, hn⟩ := List.nodup_cons.mp hn
    obtain ⟨e, he, hp⟩ := h k (List.mem_cons_self ..)
    obtain ⟨a, b, rfl⟩ := List.append_of_mem he
    have := pigeon is inj ks (a ++ b) hn fun k' hk' => by
      obtain ⟨e', he', hp'⟩ := h k' (List.mem_cons_of_mem _ hk')
      rcases List.mem_append.mp he' with h1 | h1
      · exact ⟨e', List.mem_append_left _ h1, hp'⟩
      · rcases List.mem_cons.mp h1 with rfl | h1
        · exact absurd (inj _ _ _ hp hp' ▸ hk') hk
        · exact ⟨e', List.mem_append_right _ h1, hp'⟩
    simp only [List.length_append, List.length_cons] at this ⊢
    omega
theorem setof_size {w : World} {K : Type} [DecidableEq K] {knd : KeyKind pg w K} {h : Heap} {a : Addr} {S : K → Bool} {n m : Nat} (hS : h.SetOf knd a S m) (hm : m ≤ n) (ks : List K) (hn : ks.Nodup) (hl : ks.length = n) (hk : ∀ k ∈ ks, S k = true) : m = n := by
  obtain ⟨o, es, ep, t, ho, hex, hd, hel, hmem, hb, hf, hz⟩ := hS
  have hp := pigeon (fun k (e : Int × Value) => knd.is k e.2) (fun v a b => knd.inj v.2 a b) ks es.toList hn fun k q => (hmem k).mp (hk k q)
  have e : es.toList.length = es.size := Array.length_toList
  omega
end
section
section
variable {w : World} {A : Around} {E : Value → Shared → Prop} {K : Type} [DecidableEq K] {knd : KeyKind pg w K}
theorem call_upd {c : Nat} {b : Builtin} {T id : String} {I S : Addr} {fp wr : List Addr} {gr : List Nat} {n n0 : Nat} {P : Nat → Value → Prop} {St : Nat → Shared → Prop} {Q : Value → Shared → Prop} {s : Shared} {S0 : K → Bool} (W : It w c b T id I fp wr gr n P St) (hA : AOk A (c + 4))
    (h1 : isSubtype (.type T) (.type "set") = pure false) (h2 : isSubtype (.type T) (.type "frozenset") = pure false) (h3 : (Value.type T == Value.type "dict") = false)
    (hself : ∀ (A : Around) (E : Value → Shared → Prop) (s : Shared) (Q : Value → Shared → Prop), St 0 s → Q (.ref I) s → wpAny (model pg w) A (pyIter (.ref I)) Q E s)
    (key : Nat → K) (hkey : ∀ i v, i < n → P i v → knd.is (key i) v = true ∧ v.scannable = true) (hn : n0 + n < 4000) (st : St 0 s) (hSf : S ∉ fp) (hS : HasSet knd s.heap S S0 n0)
    (hQ : ∀ s', Mv (S :: wr) gr s s' → HasSet knd s'.heap S (met S0 key n) (n0 + n) → Q .none s') : wpAny (model pg w) A (call (.builtin "set.update") [.ref S, .ref I]) Q E s := by
  obtain ⟨m, hm, hS1⟩ := (show HasSet knd s.heap S S0 n0 from hS)
  refine wpAny_call_entry PySem.F.slot_set_update hS1.typeIs PySem.F.entry_set_update ?_ (by unfold argsOk; kernel_rfl)
  unfold Builtin.«set.update» Builtin.Frozenset.manyOthers
  simp only [bind_assoc]
  refine wpAny_bind (KFB.if_not rfl ?_)
  refine wpAny_bind (wpAny_of_eq (a := S) rfl ?_)
  refine wpAny_pure ?_
  dsimp only
  refine wpAny_bind ?_
  rw [List.forIn_cons]
  refine wpAny_bind (wpAny_bind (upd_from (W.ty _ _ st) h1 h2 h3 (hself _ _ _ _ st ?_)))
  refine set_loop W (AOk.in1 (hA.less (by omega))) key hkey hSf S0 n0 hn n 0 _ rfl (Nat.zero_le _) st ?_ fun s' mv hs => ⟨rfl, ?_⟩
  · rw [met_zero]; exact hS
  · refine wpAny_pure ?_
    dsimp only
    rw [List.forIn_nil]
    exact wpAny_pure (wpAny_pure ⟨_, rfl, hQ s' mv hs⟩)
theorem gm_update {pl : Sem Bool} {Q : Value × List Value → Shared → Prop} {s : Shared} {a : Addr} {n : Nat} {S : K → Bool} (hS : HasSet knd s.heap a S n) (h : Q (.builtin "set.update", [.ref a]) s) :
    wpAny (model pg w) A (getMethod (.ref a) "update" pl) Q E s := by
  obtain ⟨m, _, hS⟩ := hS
  exact getMethod_builtin hS.typeIs PySem.F.plainAttrs_set PySem.F.slot_set_update PySem.F.type_set_update hS.noDict h
def FrozOf (knd : KeyKind pg w K) (h : Heap) (a : Addr) (S : K → Bool) : Prop :=
  ∃ o es ep t, h.get? a = some o ∧ o.cls = .type "frozenset" ∧ o.dict = none ∧ o.data = .set es ep t ∧ ElemsOf knd es.toList ∧ (∀ k, S k = true ↔ ∃ e ∈ es.toList, knd.is k e.2 = true) ∧ es.size < scanBound ∧ t.fits es.size = true
theorem FrozOf.at' {h h' : Heap} {a : Addr} {S : K → Bool} (x : FrozOf knd h a S) (k : ∀ o, h.get? a = some o → h'.get? a = some o) : FrozOf knd h' a S :=
  let ⟨o, es, ep, t, ho, r⟩ := x; ⟨o, es, ep, t, k _ ho, r⟩
theorem FrozOf.ty {s : Shared} {a : Addr} {S : K → Bool} (x : FrozOf knd s.heap a S) : s.TypeIs (.ref a) "frozenset" := let ⟨o, _, _, _, ho, hc, _⟩ := x; ⟨o, ho, hc⟩
theorem froz_find {a : Addr} {S : K → Bool} {k : K} {x : Value} {Q : Option Nat → Shared → Prop} {s : Shared} (hkey : knd.is k x = true) (hsc : x.scannable = true) (hS : FrozOf knd s.heap a S)
    (h : ∀ r : Option Nat, r.isSome = S k → Q r s) : wpAny (model pg w) A (setFind a x (knd.hash k)) Q E s := by
  obtain ⟨o, es, ep, t, ho, _, _, hd, hel, hmem, hb, hf⟩ := hS
  unfold setFind setFindIn
  refine wpAny_bind (wpAny_setState_of ho hd hf ?_)
  dsimp only
  rw [if_pos (byScan_of hsc hb hel)]
  refine wpAny_bind (wpAny_rule (wpAny_bind (wpAny_setScan_of hkey ho hd hf hel ?_)))
  cases hr : List.findIdx? (fun e => knd.is k e.2) es.toList with
  | none =>
    refine wpAny_pure (h none ?_)
    cases hq : S k with
    | false => rfl
    | true =>
      obtain ⟨e, he, hp⟩ := (hmem k).mp hq
      have := List.findIdx?_eq_none_iff.mp hr e he
      rw [hp] at this; cases this
  | some j =>
    obtain ⟨hj, hpj, _⟩ := List.findIdx?_eq_some_iff_getElem.mp hr
    exact wpAny_pure (h _ ((hmem k).mpr ⟨_, List.getElem_mem hj, hpj⟩).symm)
theorem slot_froz_in : Slot "frozenset" "__contains__" "frozenset.__contains__" := .of (owner := "frozenset") (n := "__contains__") (by rw [typeLookup_type, builtinLookup_eq_fast]; kernel_rfl) (by decide +kernel) (by decide +kernel) (by decide +kernel)
    (by first | exact .inl (by decide +kernel) | exact .inr (by decide +kernel)) (by rw [isSubtype_type]; kernel_rfl)
theorem entry_froz_in : entryFor table "frozenset.__contains__" = some Builtin.«frozenset.__contains__» := entryFor_of_tree (by kernel_rfl)
theorem in_froz {a : Addr} {S : K → Bool} {k : K} {x : Value} {Q : Value → Shared → Prop} {s : Shared} (hkey : knd.is k x = true) (hsc : x.scannable = true) (hS : FrozOf knd s.heap a S)
    (h : ∀ t, Q (.bool (S k)) { s with toks := t }) : wpAny (model pg w) A (compareOp .In x (.ref a)) Q E s := by
  show wpAny _ _ (do return .bool (← contains (.ref a) x)) Q E s
  refine wpAny_bind ?_
  unfold contains
  try with_reducible refine wpAny_holding ?_
  refine wpAny_bind (wpAny_specialOf hS.ty slot_froz_in.lookup ?_)
  show wpAny _ _ (if (some (Value.builtin "frozenset.__contains__") == some Value.none) = true then _ else _) _ E s
  rw [if_neg (by rw [beq_builtin_none]; exact Bool.false_ne_true)]
  refine wpAny_bind (wpAny_callSpecialUnlessNone?_slot (name := Str.ofString "__contains__") hS.ty slot_froz_in (wpAny_call_entry slot_froz_in hS.ty entry_froz_in ?_ (by unfold argsOk; kernel_rfl)))
  show wpAny _ _ (Builtin.Frozenset.withSetAsKey "frozenset.__contains__" x (setContains a) >>= _) _ _ _
  refine wpAny_bind ?_
  unfold Builtin.Frozenset.withSetAsKey setContains
  refine wpAny_tryCatch ?_
  refine wpAny_holding (wpAny_bind (knd.pyHash hkey ?_))
  refine wpAny_bind (froz_find (s := { s with toks := s.toks + 1 }) hkey hsc hS fun r hr => ?_)
  refine wpAny_pure ?_
  rw [hr]
  exact wpAny_pure ⟨_, rfl, wpAny_truthy_bool (wpAny_pure (h _))⟩
end
end
section
section
variable {w : World} {A : Around} {E : Value → Shared → Prop} {K : Type} [DecidableEq K] {knd : KeyKind pg w K}
def frozObj (led : Bool) : Obj := { cls := .type "frozenset", dict := none, data := .set #[] 0 (.fresh 0 0 led) }
theorem mask_ok (m : Nat) (h : m ≤ 32) : Lay.Full (SetTable.sizeAbove (m * 2) - 1) ∧ m ≤ SetTable.sizeAbove (m * 2) - 1 ∧ SetTable.sizeAbove (m * 2) ≤ 128 := by
  have h1 : ∀ m, m ≤ 32 → (SetTable.sizeAbove (m * 2) = 8 ∨ SetTable.sizeAbove (m * 2) = 16 ∨ SetTable.sizeAbove (m * 2) = 32 ∨ SetTable.sizeAbove (m * 2) = 64 ∨ SetTable.sizeAbove (m * 2) = 128) ∧ m ≤ SetTable.sizeAbove (m * 2) - 1 := by decide
  obtain ⟨h2, h3⟩ := h1 m h
  refine ⟨?_, h3, by omega⟩
  rcases h2 with e | e | e | e | e <;> rw [e]
  · exact Lay.full7
  · exact Lay.full15
  · exact Lay.full31
  · exact Lay.full63
  · exact Lay.full127
def setShape (c : Value) (es : Array (Int × Value)) (ep : Nat) (t : SetTable) : Obj := { cls := c, dict := none, data := .set es ep t }
theorem store_shape {S : Addr} {c : Value} {es es' : Array (Int × Value)} {ep : Nat} {t t' : SetTable} {s : Shared} {Q : Unit → Shared → Prop} (hS : s.heap.get? S = some (setShape c es ep t)) (hz : es'.size ≤ 4096)
    (hQ : ∀ h', Heap.SameBut S s.heap h' → h'.get? S = some (setShape c es' (ep + 1) t') → Q () { s with heap := h' }) : wpAny (model pg w) A (storeSet S es' t') Q E s := by
  refine wpAny_storeSet_of hS rfl (hQ _ (Heap.SameBut.update ..) ?_) (by rw [sizeLine_eq]; omega)
  exact Heap.get?_update_self (Obj.putSet es' t') hS rfl
theorem room_of {S : Addr} {m : Nat} {led : Bool} {s : Shared} {Q : Unit → Shared → Prop} (hS : s.heap.get? S = some (frozObj led)) (hm : m ≤ 32)
    (hQ : ∀ h' ep t', Heap.SameBut S s.heap h' → h'.get? S = some (setShape (.type "frozenset") #[] ep t') → t'.fits 0 = true → t'.fill = 0 → Lay.Full t'.mask → m ≤ t'.mask → Q () { s with heap := h' }) : wpAny (model pg w) A (setRoomFor S m) Q E s := by
  unfold setRoomFor
  refine wpAny_bind (wpAny_setState_of hS rfl rfl ?_)
  dsimp only
  have e : (SetTable.fresh 0 0 led).roomFor m = if (0 + m) * 5 ≥ 7 * 3 then some ((0 + m) * 2) else none := rfl
  rw [e]
  by_cases h5 : (0 + m) * 5 ≥ 7 * 3
  · rw [if_pos h5]
    dsimp only
    rw [Nat.zero_add]
    unfold setRelay
    refine wpAny_bind (wpAny_setState_of hS rfl rfl ?_)
    dsimp only
    obtain ⟨hF, hle, h128⟩ := mask_ok m hm
    show wpAny _ _ (if SetTable.sizeAbove (m * 2) > sizeLine then _ else _) _ _ _
    rw [if_neg (by rw [sizeLine_eq]; omega)]
    obtain ⟨t, order, hl, hM, hf, hfi, hp⟩ := Lay.laid_ok hF (SetTable.fresh 0 0 led).finger ((SetTable.fresh 0 0 led).movedTo (SetTable.sizeAbove (m * 2) - 1)) (SetTable.fresh 0 0 led).led (SetTable.fresh 0 0 led).plain ((#[] : Array (Int × Value)).map (·.1)) (by simp)
    have hl' : (SetTable.fresh 0 0 led).relaid ((#[] : Array (Int × Value)).map (·.1)) (m * 2) = some (t, order) := hl
    rw [hl']
    have ho : order = #[] := by
      have := hp.length_eq
      simpa using this
    subst ho
    refine wpAny_bind (wpAny_of_eq (a := (#[], t)) rfl ?_)
    refine store_shape hS (Nat.zero_le _) fun h' hs' hg => hQ h' _ t hs' hg (by simpa using hf) (by simpa using hfi) (by rw [hM]; exact hF) (by rw [hM]; exact hle)
  · rw [if_neg h5]
    refine wpAny_pure (hQ s.heap _ _ (Heap.SameBut.refl ..) hS rfl rfl Lay.full7 (by show m ≤ 7; omega))
theorem merge_of {S o : Addr} {m : Nat} {S0 : K → Bool} {each : Sem Unit} {led : Bool} {s : Shared} {Q : Unit → Shared → Prop} (hS : s.heap.get? S = some (frozObj led)) (hO : s.heap.SetOf knd o S0 m) (hm : m ≤ 32) (hne : S ≠ o)
    (hQ : ∀ h', Heap.SameBut S s.heap h' → FrozOf knd h' S S0 → Q () { s with heap := h' }) : wpAny (model pg w) A (setMerge S o each) Q E s := by
  obtain ⟨oo, eo, ep, to, ho, hex, hd, hel, hmem, hb, hf, hn⟩ := hO
  unfold setMerge
  refine KFB.if_not (by simpa using hne) ?_
  refine wpAny_bind (wpAny_setState_of ho hd hf ?_)
  dsimp only
  cases he : eo.isEmpty with
  | true =>
    refine KFB.if_so rfl (wpAny_pure ?_)
    have he : eo = #[] := by simpa using he
    subst he
    exact hQ s.heap (Heap.SameBut.refl ..) ⟨_, #[], 0, _, hS, rfl, rfl, rfl, fun x hx => (by simp at hx), hmem, by decide, rfl⟩
  | false =>
    refine KFB.if_not rfl ?_
    have hz : eo.size = m := hn
    rw [hz]
    refine wpAny_bind (room_of hS hm fun h1 ep1 ts hs1 hg1 hf1 hfi hF hM => ?_)
    refine wpAny_bind (wpAny_setState_of hg1 rfl hf1 ?_)
    dsimp only
    have hr : ts.road to = .slotForSlot ∨ ts.road to = .clean := by
      unfold SetTable.road
      rw [hfi]
      simp only [bne_self_eq_false, Bool.false_eq_true, if_false]
      split
      · exact .inl rfl
      · exact .inr rfl
    rcases hr with hr | hr
    · rw [hr]
      refine store_shape hg1 (by rw [hz]; omega) fun h' hs' hg => hQ h' (hs1.trans hs') ⟨_, eo, _, _, hg, rfl, rfl, rfl, hel, hmem, hb, hf⟩
    · rw [hr]
      dsimp only
      obtain ⟨t, order, hl, hMM, hft, _, hp⟩ := Lay.laid_ok hF ts.finger ts.moves (ts.led && to.led) (ts.plain && to.plain) (eo.map (·.1)) (by rw [Array.size_map, hz]; exact hM)
      rw [hl]
      rw [Array.size_map] at hft hp
      have hpe := Lay.order_perm hp
      have hze : (order.filterMap (eo[·]?)).size = eo.size := by rw [← Array.length_toList, hpe.length_eq, Array.length_toList]
      refine wpAny_bind (wpAny_of_eq (a := (order.filterMap (eo[·]?), t)) ?_ ?_)
      · show (if ((order.filterMap (eo[·]?)).size != eo.size) = true then _ else _) = _
        rw [if_neg (by simp [hze])]
      · refine store_shape hg1 (by rw [hze, hz]; omega) fun h' hs' hg => hQ h' (hs1.trans hs') ⟨_, _, _, _, hg, rfl, rfl, rfl, hel.perm hpe, fun k => (hmem k).trans ⟨fun ⟨e, he, q⟩ => ⟨e, hpe.mem_iff.mpr he, q⟩, fun ⟨e, he, q⟩ => ⟨e, hpe.mem_iff.mp he, q⟩⟩, by rw [hze]; exact hb, by rw [hze]; exact hft⟩
end
end
section
section
variable {w : World} {A : Around} {E : Value → Shared → Prop} {K : Type} [DecidableEq K] {knd : KeyKind pg w K}
theorem mro_froz : mroOf (.type "frozenset") = pure [.type "frozenset", .type "object"] := by rw [mroOf_type]; kernel_rfl
theorem lookup_froz_new : typeLookup (.type "frozenset") "__new__" = pure (some (.builtin "frozenset.__new__")) := by rw [typeLookup_type, builtinLookup_eq_fast]; kernel_rfl
theorem lookup_froz_init : typeLookup (.type "frozenset") "__init__" = pure (some (.builtin "object.__init__")) := by rw [typeLookup_type, builtinLookup_eq_fast]; kernel_rfl
theorem slot_froz_init : Slot "frozenset" "__init__" "object.__init__" := .of (owner := "object") (n := "__init__") lookup_froz_init (by decide +kernel) (by decide +kernel) (by decide +kernel)
    (by first | exact .inl (by decide +kernel) | exact .inr (by decide +kernel)) (by rw [isSubtype_type]; kernel_rfl)
theorem called_froz : TypeCalled "frozenset" "frozenset.__new__" "object.__init__" :=
  ⟨by decide +kernel, by decide +kernel, ⟨_, _, mro_froz⟩, madeBy_type mro_froz lookup_froz_new (by decide +kernel), by decide +kernel, by rw [isSubtype_type]; kernel_rfl, slot_froz_init⟩
theorem typeCall_froz (a : Value) : checkTypeCall "frozenset" ⟨[a], []⟩ = pure () := by kernel_rfl
theorem newCall_froz (a : Value) : checkBuiltinCall "frozenset.__new__" ⟨[.type "frozenset", a], []⟩ = pure () := by kernel_rfl
theorem entry_froz_new : entryFor table "frozenset.__new__" = some Builtin.«frozenset.__new__» := entryFor_of_tree (by kernel_rfl)
theorem plain_froz_new : plainId "frozenset.__new__" = true := by decide +kernel
theorem sub_set_set : isSubtype (.type "set") (.type "set") = pure true := by rw [isSubtype_type]; kernel_rfl
theorem sub_froz : isSubtype (.type "frozenset") (.type "frozenset") = pure true := by rw [isSubtype_type]; kernel_rfl
theorem froz_new {o : Addr} {S0 : K → Bool} {m : Nat} {s : Shared} {Q : Value → Shared → Prop} (hO : s.heap.SetOf knd o S0 m) (hm : m ≤ 32)
    (hQ : ∀ h' a, s.heap.get? a = none → Keeps s.heap h' → FrozOf knd h' a S0 → Q (.ref a) { s with heap := h' }) : wpAny (model pg w) A (call (.type "frozenset") [.ref o]) Q E s := by
  have hS0 := get_size s.heap
  have hT : s.TypeIs (.ref o) "set" := hO.typeIs
  have hlt : o < s.heap.objs.size := by obtain ⟨oo, _, _, _, e, _⟩ := hO; exact Heap.lt_size e
  refine callType_codes (Q₁ := fun obj s₁ => s₁.TypeIs obj "frozenset" ∧ Q obj s₁) called_froz (typeCall_froz _) PySem.F.entry_object_init ?_ fun obj s₁ h₁ => ?_
  · refine codeAny_of_tree ?_
    show wpAny _ A.in1.in1 (do checkBuiltinCall "frozenset.__new__" ⟨[.type "frozenset", .ref o], []⟩; again (.builtin "frozenset.__new__" ⟨[.type "frozenset", .ref o], []⟩)) _ _ s
    refine wpAny_bind (wpAny_of_eq (newCall_froz _) (wpAny_pure ⟨plainId_quiet plain_froz_new _, codeAny_builtin entry_froz_new ?_⟩))
    rw [Around.under_plainId plain_froz_new _]
    unfold Builtin.«frozenset.__new__» Builtin.Frozenset.newClass
    refine wpAny_bind ?_
    dsimp only
    refine wpAny_bind (wpAny_of_eq (a := true) rfl ?_)
    refine KFB.if_not rfl ?_
    refine wpAny_bind (wpAny_of_eq sub_froz ?_)
    refine KFB.if_not rfl ?_
    refine wpAny_pure ?_
    dsimp only
    refine wpAny_bind (wpAny_of_eq lookup_froz_init ?_)
    refine KFB.if_so (by simp) ?_
    refine wpAny_bind (wpAny_of_eq (a := ()) rfl ?_)
    refine wpAny_bind (wpAny_of_eq (a := "frozenset") (by first | rfl | kernel_rfl) ?_)
    refine wpAny_bind (wpAny_of_eq (a := ()) (by first | rfl | kernel_rfl) ?_)
    refine KFB.if_so (by simp) ?_
    refine wpAny_bind (wpAny_typeOf hT ?_)
    refine KFB.if_not (by decide) ?_
    refine wpAny_bind ?_
    unfold Builtin.Frozenset.newFrom
    refine wpAny_bind ?_
    unfold newSet
    refine wpAny_bind ?_
    unfold setsByText
    refine wpAny_bind (wpAny_askSetting (wpAny_pure ?_))
    refine wpAny_newObj_type ?_ (Nat.zero_le _)
    generalize (!Params.followText _ _) = led
    have hF : (s.heap.push (frozObj led)).get? s.heap.objs.size = some (frozObj led) := Heap.get?_push_size _ rfl
    have hO' : (s.heap.push (frozObj led)).SetOf knd o S0 m := by
      obtain ⟨oo, es, ep, t, e, r⟩ := hO
      exact ⟨oo, es, ep, t, Heap.get?_push_of_some _ e, r⟩
    have hT' : Shared.TypeIs { s with heap := s.heap.push (frozObj led) } (.ref o) "set" := hO'.typeIs
    refine wpAny_bind (wpAny_of_eq (a := s.heap.objs.size) rfl ?_)
    refine wpAny_bind (wpAny_holding ?_)
    show wpAny _ _ (Builtin.Frozenset.updateFrom "frozenset.__new__" s.heap.objs.size (.ref o)) _ _ _
    unfold Builtin.Frozenset.updateFrom Builtin.Frozenset.isAnySet
    refine wpAny_bind ?_
    refine wpAny_bind (wpAny_isInstance hT' sub_set_set ?_)
    show wpAny _ _ (pure true) _ _ _
    refine wpAny_pure ?_
    refine KFB.if_so rfl ?_
    refine wpAny_bind (wpAny_of_eq (a := o) rfl ?_)
    unfold Builtin.Frozenset.merge
    obtain ⟨oo, es, ep, t, e, hex, hd, r1, r2, r3, r4, r5⟩ := id hO'
    refine wpAny_bind (wpAny_setEpoch_of e hd r4 ?_)
    refine merge_of hF hO' hm (Nat.ne_of_gt hlt) fun h' hs' hfz => ?_
    refine wpAny_pure (wpAny_pure ⟨hfz.ty, hQ h' _ hS0 (fun b o e => hs'.extBut b o (fun x => by rw [x, hS0] at e; cases e) (Heap.get?_push_of_some _ e)) hfz⟩)
  · exact ⟨h₁.1, PySem.F.args_object_init_2 obj _, object_init_meets slot_froz_init.lookup called_froz.made (by decide) pg w A.in1 _ s₁ ⟨h₁.1, rfl, h₁.2⟩⟩
end
end
end
section
local macro_rules | `(tactic| x_close) => `(tactic| first
  | exact $(Lean.mkIdent `hk) _ _ Keeps.refl
  | exact $(Lean.mkIdent `hk) _ _ (keeps_of_mem (by assumption))
  | exact $(Lean.mkIdent `hk) _ _ _ Keeps.refl
  | exact $(Lean.mkIdent `hk) _ _ _ (keeps_of_mem (by assumption))
  | (apply $(Lean.mkIdent `hk); assumption)
  | (exact $(Lean.mkIdent `hk) _ _ _ (keeps_of_mem (by assumption)) (X.Mem.nw (by assumption) _ (List.mem_cons_self ..)).1 (X.Mem.nw (by assumption) _ (List.mem_cons_self ..)).2)
)
local macro_rules | `(tactic| lcg_off) => `(tactic| (intro $(Lean.mkIdent `h) _ $(Lean.mkIdent `k); (first | replace $(Lean.mkIdent `F) := WkT.kept $(Lean.mkIdent `F) $(Lean.mkIdent `k) | replace $(Lean.mkIdent `F) := Wk.kept $(Lean.mkIdent `F) $(Lean.mkIdent `k)); clear $(Lean.mkIdent `k)))
local macro_rules | `(tactic| lcg_src) => `(tactic| (intro $(Lean.mkIdent `h) _ _ $(Lean.mkIdent `k); (first | replace $(Lean.mkIdent `F) := WkT.kept $(Lean.mkIdent `F) $(Lean.mkIdent `k) | replace $(Lean.mkIdent `F) := Wk.kept $(Lean.mkIdent `F) $(Lean.mkIdent `k)); clear $(Lean.mkIdent `k)))
local macro_rules | `(tactic| tb_rel) => `(tactic| first
  | (with_reducible show wpAny _ _ (eval (Expr.Name _ _) _) _ _ _; first
      | with_reducible refine tL $(Lean.mkIdent `F) (by with_unfolding_all first | rfl | assumption) ?_ (by with_unfolding_all rfl) (by with_unfolding_all rfl) (by with_unfolding_all rfl) (by with_unfolding_all decide)
      | with_reducible refine tC $(Lean.mkIdent `F) (by with_unfolding_all first | rfl | assumption) ?_ (by with_unfolding_all rfl) (by with_unfolding_all rfl) (by with_unfolding_all rfl) (by with_unfolding_all rfl) (by with_unfolding_all decide)
      | with_reducible refine tGl $(Lean.mkIdent `X) $(Lean.mkIdent `F) (by with_unfolding_all rfl) ?_ (by with_unfolding_all rfl) (by with_unfolding_all rfl) (by with_unfolding_all rfl) (by with_unfolding_all rfl) (by with_unfolding_all decide)
      | with_reducible refine wL $(Lean.mkIdent `F) (by with_unfolding_all first | rfl | assumption) ?_ (by with_unfolding_all rfl) (by with_unfolding_all rfl) (by with_unfolding_all rfl) (by with_unfolding_all decide)
      | with_reducible refine wFr $(Lean.mkIdent `F) (by with_reducible assumption) (by with_unfolding_all first | rfl | assumption) ?_ (by with_unfolding_all rfl) (by with_unfolding_all rfl) (by with_unfolding_all rfl) (by with_unfolding_all decide) (by with_unfolding_all decide)
      | with_reducible refine wGl $(Lean.mkIdent `X) $(Lean.mkIdent `F) (by with_unfolding_all rfl) ?_ (by with_unfolding_all rfl) (by with_unfolding_all rfl) (by with_unfolding_all rfl) (by with_unfolding_all rfl) (by with_unfolding_all decide))
  | (with_reducible show wpAny _ _ (eval _ _) _ _ _; first
      | with_reducible refine sub_sl ?_
      | with_reducible refine e_int ?_
      | with_reducible refine e_str ?_
      | with_reducible refine e_bool ?_
      | with_reducible refine e_none ?_
      | with_reducible refine wpAny_BinOp ?_
      | with_reducible refine wpAny_Compare1 ?_
      | with_reducible refine wpAny_UnaryOp ?_
      | with_reducible refine callN ?_
      | with_reducible refine sub_ix ?_
      | with_reducible refine s_ifx ?_
      | with_reducible refine Attribute_name ?_)
  | (with_reducible show wpAny _ _ (execs _ _) _ _ _; first
      | with_reducible refine s_cons ?_
      | with_reducible refine s_nil ?_)
  | (with_reducible show wpAny _ _ (exec _ _) _ _ _; first
      | with_reducible refine wpAny_Assert_holds ?_
      | with_reducible refine s_if ?_
      | with_reducible refine wpAny_Return_some ?_
      | with_reducible refine wpAny_Assign_Name ?_ (by with_unfolding_all rfl)
      | with_reducible refine wpAny_AugAssign_Name ?_
      | with_reducible refine s_for ?_ (by intro _; with_unfolding_all rfl)
      | with_reducible refine s_expr ?_)
  | (with_reducible show wpAny _ _ (storeName _ _ _) _ _ _; first
      | (with_reducible refine tstL $(Lean.mkIdent `F) ?_ (by with_unfolding_all rfl) (by with_unfolding_all rfl) (by with_unfolding_all rfl); clear $(Lean.mkIdent `F); intro _ _ $(Lean.mkIdent `F))
      | (with_reducible refine tstC $(Lean.mkIdent `F) ?_ (by with_unfolding_all rfl) (by with_unfolding_all rfl) (by with_unfolding_all rfl) (by with_unfolding_all rfl); clear $(Lean.mkIdent `F); intro _ _ $(Lean.mkIdent `F))
      | (with_reducible refine wstL $(Lean.mkIdent `F) ?_ (by with_unfolding_all rfl) (by with_unfolding_all rfl) (by with_unfolding_all rfl); clear $(Lean.mkIdent `F); intro _ _ $(Lean.mkIdent `F)))
  | (with_reducible show wpAny _ _ (loadName _ _) _ _ _; first
      | with_reducible refine tldL $(Lean.mkIdent `F) (by with_unfolding_all first | rfl | assumption) ?_ (by with_unfolding_all rfl) (by with_unfolding_all rfl) (by with_unfolding_all rfl)
      | with_reducible refine tldC $(Lean.mkIdent `F) (by with_unfolding_all first | rfl | assumption) ?_ (by with_unfolding_all rfl) (by with_unfolding_all rfl) (by with_unfolding_all rfl) (by with_unfolding_all rfl)
      | with_reducible refine wldL $(Lean.mkIdent `F) (by with_unfolding_all first | rfl | assumption) ?_ (by with_unfolding_all rfl) (by with_unfolding_all rfl) (by with_unfolding_all rfl))
  | (with_reducible show wpAny _ _ (spliced _) _ _ _; first
      | with_reducible refine wpAny_items_cons ?_ (by with_unfolding_all rfl)
      | with_reducible refine wpAny_items_nil ?_)
  | (with_reducible show wpAny _ _ (callWith _ _ _ _ _) _ _ _; first
      | with_reducible refine callB ?_ (by with_unfolding_all rfl) (by with_unfolding_all rfl)
      | with_reducible refine callT ?_ (by with_unfolding_all rfl) (by with_unfolding_all rfl)
      | with_reducible refine callKn $(Lean.mkIdent `X) (by kernel_rfl) ?_ (by with_unfolding_all rfl) (by with_unfolding_all rfl))
  | (with_reducible show wpAny _ _ (isTrue _ _ _) _ _ _; first
      | with_reducible refine wpAny_isTrue_Compare1 ?_
      | with_reducible refine wpAny_isTrue_Not ?_
      | with_reducible refine wpAny_isTrue_BoolOp ?_
      | with_reducible refine wpAny_isTrue_value ?_ (by with_unfolding_all rfl))
  | (with_reducible show wpAny _ _ (truthy _) _ _ _; first
      | with_reducible refine t_bool ?_
      | with_reducible refine t_int ?_)
  | (with_reducible show wpAny _ _ (compareOp _ _ _) _ _ _; first
      | with_reducible refine i_eq ?_
      | with_reducible refine i_ne ?_
      | with_reducible refine i_lt ?_
      | with_reducible refine i_gt ?_
      | with_reducible refine i_ge ?_
      | with_reducible refine is_nn ?_)
  | (with_reducible show wpAny _ _ (binaryOp _ _ _) _ _ _; first
      | (with_reducible refine n_and63 ?_; intro _ _)
      | (with_reducible refine n_and15 ?_; intro _ _)
      | (with_reducible refine n_and3 ?_; intro _ _)
      | (with_reducible refine n_or ?_; intro _ _)
      | (with_reducible refine n_shr2 ?_; intro _ _)
      | (with_reducible refine n_shr4 ?_; intro _ _)
      | (with_reducible refine n_shr6 ?_; intro _ _)
      | (with_reducible refine n_shl2 (by omega) ?_; intro _ _)
      | (with_reducible refine n_shl4 (by omega) ?_; intro _ _)
      | (with_reducible refine n_shl6 (by omega) ?_; intro _ _)
      | (with_reducible refine i_add ?_; intro _ _)
      | (with_reducible refine i_sub ?_; intro _ _)
      | (with_reducible refine i_and ?_; intro _ _)
      | (with_reducible refine i_or ?_; intro _ _)
      | (with_reducible refine i_xor ?_; intro _ _))
  | (with_reducible show wpAny _ _ (inplaceOp _ _ _) _ _ _; first
      | (with_reducible refine i_iand ?_; intro _ _)
      | (with_reducible refine i_ior ?_; intro _ _)
      | (with_reducible refine i_iadd ?_; intro _ _))
  | (with_reducible show wpAny _ _ (unaryOp _ _) _ _ _; first
      | (with_reducible refine i_neg ?_; intro _ _)
      | (with_reducible refine i_inv ?_; intro _ _))
  | (with_reducible show wpAny _ _ (evalPart _ _) _ _ _; first
      | with_reducible refine part0 ?_
      | with_reducible refine part1 ?_)
  | with_reducible refine seg_execs_cons ?_
  | with_reducible refine seg_Assign ?_
  | with_reducible refine seg_Aug ?_
  | with_reducible refine seg_Assert ?_
  | with_reducible refine seg_If ?_
  | with_reducible refine st_next ?_
  | with_reducible refine sbr_t ?_
  | with_reducible refine sbr_f ?_
  | with_reducible refine br_t ?_
  | with_reducible refine br_f ?_
  | with_reducible refine br_nt ?_
  | with_reducible refine br_nf ?_
  | with_reducible refine then_next ?_
  | with_reducible refine then_ret ?_
  | with_reducible refine retQ ?_
  | with_reducible refine And.intro (fun _ => WkT.top $(Lean.mkIdent `F) $(Lean.mkIdent `X)) ?_
  | with_reducible refine And.intro (fun _ => Wk.top $(Lean.mkIdent `F) $(Lean.mkIdent `X)) ?_
  | with_reducible refine brE_t ?_
  | with_reducible refine brE_f ?_)
section
abbrev padScope : Scope := { kind := .function, names := [(".0", .local), ("i", .local), ("c", .local), ("bits", .free)], isGenerator := true, isCoroutine := false }
def pzB (B : Nat) (i : Nat) : Bool := (i &&& B) == 0
def enumObj (I : Addr) : Obj := ⟨.type "enumerate", none, .fields #[.none, .bool false, .ref I, rawInt 0, .none, .none], #[]⟩
section
variable {w : World} {h' : Heap} {g : Array GenState} {d : Drawn} {t' : Nat} {os : OsState} {env : Env} {Ig C e I c0 : Addr} {code : Value} {b : Builtin} {T id : String} {P0 : Nat → Value → Prop} {St0 : Nat → Shared → Prop} {oc : Obj} {B : Nat} {u4 : Tok} {cd : Code} {iter : PySem.Expr} {p1 p2 p3 p4 p5 p6 p7 p8 p9 pp pos : Pos} {k1 : Nat} {nm qn : Value} {m : Str → Option Value}
theorem pad_gst (W0 : It w 1 b T id I [I] [I] [] 64 P0 St0)
    (hcd : cd = Code.compStart (.GeneratorExp (.Name "c" p1) [⟨.Tuple [.Name "i" p2, .Name "c" p3] k1 p4, iter, [.UnaryOp .Not (.BinOp (.Name "i" p5) .BitAnd (.Name "bits" p6) p7) p8], 0⟩] padScope pos) 0 (.ref e) .none (genEnv padScope [("bits", c0)] C code 0 env))
    (X : Top w h') (hg : h'.get? Ig = some ⟨.type "generator", none, .fields #[.int g.size 0, nm, qn], #[]⟩) (FC : Wk hE C h' h' m []) (he : h'.get? e = some (enumObj I)) (hc : h'.get? c0 = some oc) (hdc : oc.data = .cell (some (.int (B : Int) u4)))
    (hI : ∀ s : Shared, Still [2, Ig, C, e, I, c0] h' s.heap → St0 0 s) (hl : ∃ o, h'.get? I = some o)
    (eC : e ≠ C) (IC : I ≠ C) (cC : c0 ≠ C) (eI : e ≠ I) (ce : c0 ≠ e) (cI : c0 ≠ I) :
    GStx w 20 Ig g.size (passing (pzB B) 64 0).length (xP (pzB B) 64 P0) [2, Ig, C, e, I, c0] [C, e, I] 0 ⟨h', g.push (.fresh cd), d, t', os⟩ := by
  subst hcd
  have We := It.enum (e := e) W0 (by simpa using eI)
  refine gstx_start X hg ?_ fun s'' hs => seg_gs (seg_glT (C := C) (c := 2) (cc := 6) (news := [(c0, oc)]) We (over_gx (by omega)) rfl (by rfl) (by rfl) (by rfl) (by rfl) ?_ ?_ ?_ ?_ ?_ ?_ ?_ (pzB B) P0 ?_ ?_ (by decide) _ 0 s'' s'' m rfl (by omega) ?_ Mv.refl ?_) ?_
  · intro b hb
    simp only [List.mem_cons, List.not_mem_nil, or_false] at hb
    rcases hb with rfl | rfl | rfl
    · exact FC.liveL
    · exact ⟨_, he⟩
    · exact hl
  · simp [eC.symm, IC.symm]
  · simp
  · simp
  · simp
  · simp
  · simp
  · simp [cC, ce, cI]
  · intro A' i v1 v2 h g d t os m hA hi hP F hm1 hm2
    obtain ⟨⟨u, rfl⟩, hP⟩ := hP
    have hcell : (c0, oc) ∈ [(c0, oc)] := List.mem_cons_self ..
    rw [List.forIn_cons]
    refine wpAny_bind (KFB.if_so rfl (wpAny_bind ?_))
    repeat tb_rel
    refine wpAny_pure ?_
    dsimp only
    rw [List.forIn_nil]
    refine wpAny_pure ⟨?_, _, _, rfl, Keeps.refl⟩
    rw [bitAnd_nat]
    unfold pzB
    cases hq : (i &&& B) with
    | zero => rfl
    | succ n => simp; omega
  · intro A' i v1 v2 h g d t os m hA hi hpz hP F hm1 hm2
    repeat tb_rel
    exact ⟨hP.2, _, _, rfl, Keeps.refl⟩
  · obtain ⟨h2, g2, d2, t2, os2⟩ := s''
    exact ⟨⟨_, hs e (by simp) _ he⟩, hI ⟨h2, g2, d2, t2, os2⟩ hs⟩
  · obtain ⟨h2, g2, d2, t2, os2⟩ := s''
    exact (FC.new (o := oc) hc cC (by rfl)).still hs (by simp) (by simp)
  · intro A E Q hq
    exact wpAny_pyIter_enum (hs e (by simp) _ he) hq
end
end
section
theorem sub_gen_set : isSubtype (.type "generator") (.type "set") = pure false := by rw [isSubtype_type]; kernel_rfl
theorem sub_gen_froz : isSubtype (.type "generator") (.type "frozenset") = pure false := by rw [isSubtype_type]; kernel_rfl
def padN (B : Nat) : Nat := (passing (pzB B) 64 0).length
def padI (B j : Nat) : Nat := (passing (pzB B) 64 0).getD j 0
def padK1 (chars : Array UInt8) (B j : Nat) : Kx := .inl ((chars.getD (padI B j) 0).toNat : Int)
def padK2 (chars : Array UInt8) (B j : Nat) : Kx := .inr ⟨#[(chars.getD (padI B j) 0).toNat]⟩
def padS (chars : Array UInt8) (B : Nat) : Kx → Bool := met (met (fun _ => false) (padK1 chars B) (padN B)) (padK2 chars B) (padN B)
theorem padN_le {B : Nat} (hB : B = 15 ∨ B = 60 ∨ B = 3 ∨ B = 48) : padN B ≤ 16 := by
  rcases hB with rfl | rfl | rfl | rfl <;> decide +kernel
theorem strOf_at (chars : Array UInt8) (i : Nat) (h : i < chars.size) : (strOf chars).cps[i]? = some (chars.getD i 0).toNat := by
  unfold strOf
  simp [h, Array.getD]
theorem HasSet.obj {w : World} {K : Type} [DecidableEq K] {knd : KeyKind pg w K} {h : Heap} {a : Addr} {S : K → Bool} {n : Nat} (x : HasSet knd h a S n) : ∃ o, h.get? a = some o ∧ ∀ h', h'.get? a = some o → HasSet knd h' a S n :=
  let ⟨m, hm, o, es, ep, t, ho, r⟩ := x; ⟨o, ho, fun _ e => ⟨m, hm, o, es, ep, t, e, r⟩⟩
theorem FrozOf.obj {w : World} {K : Type} [DecidableEq K] {knd : KeyKind pg w K} {h : Heap} {a : Addr} {S : K → Bool} (x : FrozOf knd h a S) : ∃ o, h.get? a = some o ∧ ∀ h', h'.get? a = some o → FrozOf knd h' a S :=
  let ⟨o, es, ep, t, ho, r⟩ := x; ⟨o, ho, fun _ e => ⟨o, es, ep, t, e, r⟩⟩
theorem tab_grow {b : Addr} (h : b ∉ tabs) : b ∉ grows := fun x => h (by simp only [grows, List.mem_cons, List.not_mem_nil, or_false] at x; rcases x with rfl | rfl | rfl <;> simp [tabs])
theorem Own.hp {hp : Heap} {L a : Addr} {cs : List (Str × Addr)} (o : Own (strike hp) L cs a) : hp.get? a = none := (strike_in (tab_grow o.2.1)) ▸ o.1
theorem s_exprN {M : Model} {A : Around} {E : Value → Shared → Prop} {env : Env} {s : Shared} {e : PySem.Expr} {pos : Pos} {Q : Flow → Shared → Prop} (h : wpAny M A (eval e env) (fun v s' => v = .none ∧ Q .next s') E s) (hi : interactive env = false := by rfl) (hs : swapsWith e none pos.line env = pure false := by rfl) : wpAny M A (exec (.Expr e pos) env) Q E s :=
  wpAny_Expr (wpAny_mono h (fun v s' q => by obtain ⟨rfl, q⟩ := q; exact q) fun _ _ x => x) hi hs
section
variable {w : World} {A : Around} {n : Nat} {E : Value → Shared → Prop} {Q : Value → Shared → Prop} {hp : Heap} {g : Array GenState} {d : Drawn} {t : Nat} {os : OsState} {p : EngP} {e : Addr} {chars : Array UInt8} {big : Bool} {t1 t2 : Tok}
theorem padset_ok {gb : BG} {B : Nat} (hB : B = 15 ∨ B = 60 ∨ B = 3 ∨ B = 48) (hA : AOk A 30) (X : Top w hp) (T : TabOk hp) (H : Eng (strike hp) p e chars big) (hch : ∀ p < 64, (chars.getD p 0).toNat < 128)
   (hQ : ∀ h' (g' : BG) t' a, KeepsG hp h' → TabOk h' → hp.get? a = none → FrozOf (mixKind w) h' a (padS chars B) → Q (.ref a) ⟨h', g', d, t', os⟩) :
   wpAny (model pg w) A (call (.ref 163) [.ref e, .int (B : Int) t1]) Q E ⟨hp, gb, d, t, os⟩ := by
  obtain ⟨g, bg⟩ := gb
  dsimp only
  refine wpAny_call (call_fnC (n := 28) (binds := [("self", .ref e), ("bits", .int (B : Int) t1)]) hA X T fn163 (by rfl) (by rfl) (by rfl) (by decide) (by rfl) ?_)
  intro h₁ t₁ L F hA'
  replace X := X.strike
  refine s_cons ?_
  repeat tb_rel
  refine gx_make (cl := [("bits", L + 1)]) ?_ hA'.room rfl rfl (by decide) rfl rfl (by intro _; rfl)
  repeat tb_rel
  refine ga_bytemap (F.top X) (H.keep F.old) ?_
  intro _ u
  repeat tb_rel
  refine up hA' (x_enumB (F.top X) ?_)
  intro h t en I D
  have ne := D.nw _ (List.mem_cons_self ..)
  have nI := D.nw _ (List.mem_cons_of_mem _ (List.mem_cons_self ..))
  dsimp only at ne nI
  have ord := D.ord
  simp only [List.map_cons, List.map_nil, List.pairwise_cons, List.mem_cons, List.not_mem_nil, or_false, forall_eq_or_imp, forall_eq, gt_iff_lt] at ord
  have heI : en ≠ I := Nat.ne_of_gt ord.1
  clear ord
  have oE := F.ownNew ne.2
  replace F := F.add (keeps_of_mem D) nI.1 nI.2
  replace F := F.ownIn ne.1 oE
  clear D
  repeat tb_rel
  refine wpAny_pyIter_enum (e := en) (it := I) (i := 0) (old := .none) (F.get (List.mem_cons_self ..)) ?_
  refine gx_go 162 158 (by decide) F X rfl rfl ?_
  intro h' t' Ig C code nm qn cd hcd F' oI oC hne kp nIg nC hg FC
  have hCI : C ≠ I := fun x => by rw [x, F.get (a := I) (List.mem_cons_of_mem _ (List.mem_cons_self ..))] at nC; cases nC
  have hCe : C ≠ en := fun x => by rw [x, F.get (a := en) (List.mem_cons_self ..)] at nC; cases nC
  have hgI : Ig ≠ I := fun x => by rw [x, F.get (a := I) (List.mem_cons_of_mem _ (List.mem_cons_self ..))] at nIg; cases nIg
  have hge : Ig ≠ en := fun x => by rw [x, F.get (a := en) (List.mem_cons_self ..)] at nIg; cases nIg
  replace F := F'
  clear F' nC nIg kp ne nI
  obtain ⟨oc, hoc, hdc⟩ := F.C.cell "bits" (L + 1) (by rfl)
  have hri := F.get (a := I) (List.mem_cons_of_mem _ (List.mem_cons_self ..))
  have hre := F.get (a := en) (List.mem_cons_self ..)
  have owI := F.own (a := I) (List.mem_cons_of_mem _ (List.mem_cons_self ..))
  have owe := F.own (a := en) (List.mem_cons_self ..)
  have cC : L + 1 ≠ C := fun x => oC.2.2.2 "bits" (x ▸ List.mem_cons_self ..)
  have ce : L + 1 ≠ en := fun x => owe.2.2.2 "bits" (x ▸ List.mem_cons_self ..)
  have cI : L + 1 ≠ I := fun x => owI.2.2.2 "bits" (x ▸ List.mem_cons_self ..)
  have gst := pad_gst (w := w) (g := g) (d := d) (t' := t') (os := os) (B := B) (u4 := t1) (It.bytes I chars u 64 H.size) hcd (F.top X) hg FC hre hoc hdc (fun s hs => ⟨_, hs I (by simp) _ hri, rfl, rfl⟩) ⟨_, hri⟩ (Ne.symm hCe) (Ne.symm hCI) cC heI ce cI
  have c2 : (2 : Addr) ≠ C := fun x => by have := X 2 _ (eq2 w.params); rw [x, oC.1] at this; cases this
  have e2 : (2 : Addr) ≠ en := fun x => by have := X 2 _ (eq2 w.params); rw [x, owe.1] at this; cases this
  have i2 : (2 : Addr) ≠ I := fun x => by have := X 2 _ (eq2 w.params); rw [x, owI.1] at this; cases this
  have W0 := It.genx (w := w) (c := 20) (by omega) (I := Ig) (g := g.size) (N := padN B) (P := xP (pzB B) 64 (fun i v => ∃ c u, chars[i]? = some c ∧ v = .int (c.toNat : Int) u)) (fp := [2, Ig, C, en, I, L + 1]) (wr := [C, en, I]) (by simp) (by simp) (by simp) (by simp [c2, e2, i2]) (by simp [hne, hge, hgI])
  repeat tb_rel
  refine set_of (knd := mixKind w) W0 (hA'.less (by omega)) sub_gen_set sub_gen_froz (by decide) (fun A E s Q st hq => wpAny_pyIter_gen st.gen hq) (padK1 chars B) ?_ (by have := padN_le hB; omega) gst ?_ ?_
  · rintro j v hj ⟨i, hi, hlt, hpz, c, u, hc, rfl⟩
    refine ⟨?_, rfl⟩
    have e1 : padI B j = i := by unfold padI; rw [List.getD_eq_getElem?_getD, hi]; rfl
    unfold padK1
    rw [e1, show (chars.getD i 0).toNat = c.toNat by simp [Array.getD_eq_getD_getElem?, hc]]
    exact mix_int w _ _
  · intro b hb
    simp only [List.mem_cons, List.not_mem_nil, or_false] at hb
    rcases hb with rfl | rfl | rfl | rfl | rfl | rfl
    · exact ⟨_, gst.two⟩
    · exact ⟨_, hg⟩
    · exact gst.live _ (by simp)
    · exact gst.live _ (by simp)
    · exact gst.live _ (by simp)
    · exact ⟨_, hoc⟩
  · intro s' a na mv hs
    obtain ⟨h2, g2, d2, t2, os2⟩ := s'
    obtain rfl : d2 = d := mv.drawn
    obtain rfl : os2 = os := mv.os
    have bg2 : Bare g2 := mv.bare (bg.push _)
    have oA := F.ownNew na
    replace F := WkT.mv (s := ⟨h', g.push (.fresh cd), _, t', _⟩) (s' := ⟨h2, g2, _, t2, _⟩) F.drop.mark mv (by
        intro a ha
        simp only [List.mem_cons, List.not_mem_nil, or_false] at ha
        rcases ha with rfl | rfl | rfl
        · exact oC
        · exact owe
        · exact owI) (by simp)
    obtain ⟨so, ho, hset⟩ := hs.obj
    replace F := F.ownIn ho oA
    clear hs ho na mv gst hcd FC hg hri hre W0 hdc hoc cC ce cI c2 e2 i2 hne hge hgI hCI hCe owI owe oC oI oE heI
    repeat tb_rel
    refine s_exprN ?_
    refine MethodCall_ ?_ (by rfl)
    repeat tb_rel
    refine gm_update (hset _ (F.get (List.mem_cons_self ..))) ?_
    repeat tb_rel
    refine gx_make (cl := [("bits", L + 1)]) ?_ hA'.room rfl rfl (by decide) rfl rfl (by intro _; rfl)
    repeat tb_rel
    refine ga_charmap (hA'.less (by omega)) (F.top X) (H.keep F.old) ?_
    intro h t u k
    replace F := F.kept k
    clear k
    repeat tb_rel
    have hasc : (strOf chars).cps.all (· < 128) = true := by
      rw [Array.all_eq_true]
      intro i hi
      have hi' : i < chars.size := by unfold strOf at hi; simpa using hi
      have := hch i (H.size ▸ hi')
      have e1 := strOf_at chars i hi'
      rw [Array.getElem?_eq_getElem hi] at e1
      rw [Option.some.inj e1]
      exact decide_eq_true this
    have hla := F.get (List.mem_cons_self ..)
    refine call_enumerate_str (s := ⟨h, g2, d2, t, os2⟩) ?_
    intro h3 he hit hz kp3
    rw [show strIterType (strOf chars) = "str_ascii_iterator" by unfold strIterType; rw [if_pos hasc]] at hit
    obtain ⟨oi, hoi, hci, hdi⟩ := hit
    have n1 : h.get? h.objs.size = none := get_size h
    have n2 : h.get? (h.objs.size + 1) = none := by
      cases q : h.get? (h.objs.size + 1) with
      | none => rfl
      | some o => exact absurd (Heap.lt_size q) (by simp)
    have heI : h.objs.size + 1 ≠ h.objs.size := Nat.succ_ne_self _
    dsimp only at he hoi kp3 ⊢
    generalize h.objs.size + 1 = en at *
    generalize h.objs.size = I at *
    have haI : a ≠ I := fun x => by rw [x, n1] at hla; cases hla
    have hae : a ≠ en := fun x => by rw [x, n2] at hla; cases hla
    have oE := F.ownNew n2
    replace F := F.add kp3 hoi n1
    replace F := F.ownIn he oE
    clear oE he hoi n1 n2 hz kp3 hla
    refine wpAny_pyIter_enum (e := en) (it := I) (i := 0) (old := .none) (F.get (List.mem_cons_self ..)) ?_
    refine gx_go 162 158 (by decide) F X rfl rfl ?_
    intro h' t' Ig C code nm qn cd hcd F' oI oC hne kp nIg nC hg FC
    have hCI : C ≠ I := fun x => by rw [x, F.get (a := I) (List.mem_cons_of_mem _ (List.mem_cons_self ..))] at nC; cases nC
    have hCe : C ≠ en := fun x => by rw [x, F.get (a := en) (List.mem_cons_self ..)] at nC; cases nC
    have hgI : Ig ≠ I := fun x => by rw [x, F.get (a := I) (List.mem_cons_of_mem _ (List.mem_cons_self ..))] at nIg; cases nIg
    have hge : Ig ≠ en := fun x => by rw [x, F.get (a := en) (List.mem_cons_self ..)] at nIg; cases nIg
    have ma : (a, so) ∈ [(en, enumObj I), (I, oi), (a, so)] := List.mem_cons_of_mem _ (List.mem_cons_of_mem _ (List.mem_cons_self ..))
    have haC : a ≠ C := fun x => by rw [← x, F.get (a := a) ma] at nC; cases nC
    have hag : a ≠ Ig := fun x => by rw [← x, F.get (a := a) ma] at nIg; cases nIg
    replace F := F'
    clear F' nC nIg kp
    obtain ⟨oc, hoc, hdc⟩ := F.C.cell "bits" (L + 1) (by rfl)
    have hri := F.get (a := I) (List.mem_cons_of_mem _ (List.mem_cons_self ..))
    have hre := F.get (a := en) (List.mem_cons_self ..)
    have owI := F.own (a := I) (List.mem_cons_of_mem _ (List.mem_cons_self ..))
    have owe := F.own (a := en) (List.mem_cons_self ..)
    have cC : L + 1 ≠ C := fun x => oC.2.2.2 "bits" (x ▸ List.mem_cons_self ..)
    have ce : L + 1 ≠ en := fun x => owe.2.2.2 "bits" (x ▸ List.mem_cons_self ..)
    have cI : L + 1 ≠ I := fun x => owI.2.2.2 "bits" (x ▸ List.mem_cons_self ..)
    have ca : a ≠ L + 1 := fun x => oA.2.2.2 "bits" (x ▸ List.mem_cons_self ..)
    have gst := pad_gst (w := w) (g := g2) (d := d2) (t' := t') (os := os2) (B := B) (u4 := t1) (It.strA I (strOf chars) u 64 (by unfold strOf; rw [Array.size_map]; exact H.size)) hcd (F.top X) hg FC hre hoc hdc (fun s hs => ⟨_, hs I (by simp) _ hri, hci, hdi⟩) ⟨_, hri⟩ (Ne.symm hCe) (Ne.symm hCI) cC heI ce cI
    have c2 : (2 : Addr) ≠ C := fun x => by have := X 2 _ (eq2 w.params); rw [x, oC.1] at this; cases this
    have e2 : (2 : Addr) ≠ en := fun x => by have := X 2 _ (eq2 w.params); rw [x, owe.1] at this; cases this
    have i2 : (2 : Addr) ≠ I := fun x => by have := X 2 _ (eq2 w.params); rw [x, owI.1] at this; cases this
    have a2 : a ≠ 2 := fun x => by have := X 2 _ (eq2 w.params); rw [← x, oA.1] at this; cases this
    have W0 := It.genx (w := w) (c := 20) (by omega) (I := Ig) (g := g2.size) (N := padN B) (P := xP (pzB B) 64 (fun i v => ∃ c u, (strOf chars).cps[i]? = some c ∧ v = .str ⟨#[c]⟩ u)) (fp := [2, Ig, C, en, I, L + 1]) (wr := [C, en, I]) (by simp) (by simp) (by simp) (by simp [c2, e2, i2]) (by simp [hne, hge, hgI])
    repeat tb_rel
    refine call_upd (knd := mixKind w) (n0 := padN B) W0 (hA'.less (by omega)) sub_gen_set sub_gen_froz (by decide) (fun A E s Q st hq => wpAny_pyIter_gen st.gen hq) (padK2 chars B) ?_ (by have := padN_le hB; omega) gst (by simp [a2, hag, haC, hae, haI, ca]) (hset _ (F.get ma)) ?_
    · rintro j v hj ⟨i, hi, hlt, hpz, c, u, hc, rfl⟩
      refine ⟨?_, rfl⟩
      have e1 : padI B j = i := by unfold padI; rw [List.getD_eq_getElem?_getD, hi]; rfl
      rw [strOf_at chars i (by rw [H.size]; exact hlt)] at hc
      obtain rfl := Option.some.inj hc
      unfold padK2
      rw [e1]
      exact mix_str w _ _
    · intro s' mv hs
      obtain ⟨h4, g4, d4, t4, os4⟩ := s'
      obtain rfl : d4 = d2 := mv.drawn
      obtain rfl : os4 = os2 := mv.os
      have bg4 : Bare g4 := mv.bare (bg2.push _)
      replace F := WkT.mv (s := ⟨h', g2.push (.fresh cd), _, t', _⟩) (s' := ⟨h4, g4, _, t4, _⟩) F.drop.mark mv (by
          intro a ha
          simp only [List.mem_cons, List.not_mem_nil, or_false] at ha
          rcases ha with rfl | rfl | rfl | rfl
          · exact oA
          · exact oC
          · exact owe
          · exact owI) (by simp)
      refine ⟨rfl, ?_⟩
      repeat tb_rel
      obtain ⟨m, hm, hSO⟩ := hs
      refine froz_new hSO (by have := padN_le hB; omega) ?_
      intro h5 z nz k hz
      have oz := F.ownNew nz
      replace F := F.kept k
      repeat tb_rel
      exact hQ _ ⟨g4, bg4⟩ _ _ F.oldG F.T oz.hp hz
end
end
section
section
variable {w : World} {A : Around} {n : Nat} {E : Value → Shared → Prop} {Q : Value → Shared → Prop} {hp : Heap} {g : Array GenState} {d : Drawn} {t : Nat} {os : OsState} {p : EngP} {e : Addr} {chars : Array UInt8} {big : Bool} {t1 t2 : Tok}
def TupQ (Q : Value → Shared → Prop) : List Value → Shared → Prop := fun vs s => vs.length ≤ 16777216 ∧ ∀ h' l, Keeps s.heap h' → h'.get? l = some ⟨.type "tuple", none, .seq vs.toArray 0, #[]⟩ → s.heap.get? l = none → Q (.ref l) ⟨h', s.gens, s.drawn, s.toks, s.os⟩
theorem e_tup {M : Model} {s : Shared} {env : Env} {elts : List PySem.Expr} {k : Nat} {pos : Pos} {Q : Value → Shared → Prop} (q : wpAny M A (spliced (backTo pos (starEach elts env))) (TupQ Q) E s) : wpAny M A (eval (.Tuple elts k pos) env) Q E s :=
  wpAny_Tuple (wpAny_mono q (fun vs s₁ q => ⟨by rw [sizeLine_eq]; exact q.1, q.2 _ _ (fun b o e => Heap.get?_push_of_some _ e) (Heap.get?_push_size _ rfl) (get_size _)⟩) fun _ _ x => x)
def padB2 (big : Bool) : Nat := if big then 15 else 60
theorem padinfo2_code {g : BG} (hA : AOk A 32) (X : Top w hp) (T : TabOk hp) (H : Eng (strike hp) p e chars big) (hch : ∀ p < 64, (chars.getD p 0).toNat < 128)
   (hQ : ∀ h' (g' : BG) t' Tp a u, KeepsG hp h' → TabOk h' → hp.get? a = none → hp.get? Tp = none → a ≠ Tp → IsPair h' Tp (.int (Builtin.bitNot (padB2 big : Int)) u) (.ref a) → FrozOf (mixKind w) h' a (padS chars (padB2 big)) → Q (.ref Tp) ⟨h', g', d, t', os⟩) :
   codeAny (model pg w) A (.call (.ref 170) ⟨[.ref e], []⟩) (CodeQ Q E) ⟨hp, g, d, t, os⟩ := by
  refine call_fnC (n := 30) (binds := [("self", .ref e)]) hA X T fn170 (by rfl) (by rfl) (by rfl) (by decide) (by rfl) ?_
  intro h₁ t₁ L F hA'
  replace X := X.strike
  refine s_join (fun s' => ∃ h' t' m u, s' = ⟨h', g, d, t', os⟩ ∧ WkT (strike hp) L [] h' h' m (fun _ => none) [] ∧ m "self" = some (.ref e) ∧ m "bits" = some (.int (padB2 big : Int) u)) ?_ ?_
  · repeat tb_rel
    refine ga_big (F.top X) (H.keep F.old) ?_
    intro _
    cases big with
    | true =>
      repeat tb_rel
      refine ⟨rfl, _, _, _, _, rfl, F.mark, by with_unfolding_all rfl, by with_unfolding_all rfl⟩
    | false =>
      repeat tb_rel
      refine i_shl (by decide) (by decide) (by decide) ?_
      intro _ _
      repeat tb_rel
      refine ⟨rfl, _, _, _, _, rfl, F.mark, by with_unfolding_all rfl, by with_unfolding_all rfl⟩
  · rintro s' ⟨h, t, m, u, rfl, F, m1, m2⟩
    repeat tb_rel
    refine e_tup ?_
    repeat tb_rel
    refine MethodCall_ ?_ (by rfl)
    repeat tb_rel
    refine gm_fn (f := 163) (F.top X) (H.keep F.old) (by kernel_rfl) (by kernel_rfl) (by kernel_rfl) ?_
    repeat tb_rel
    refine padset_ok (B := padB2 big) (by cases big <;> simp [padB2]) (hA'.less (by omega)) (F.top X) F.T (H.keep F.oldS) hch ?_
    intro h' g' t' a k T' na hz
    have oa := F.ownNew na
    replace F := F.keptG k T'
    obtain ⟨o, ho, hfz⟩ := hz.obj
    replace F := F.ownIn ho oa
    repeat tb_rel
    refine ⟨by show 2 ≤ 16777216; decide, ?_⟩
    intro h2 Tp k2 hT nT
    have oT := F.ownNew nT
    have hne : a ≠ Tp := fun x => by rw [← x, F.get (List.mem_cons_self ..)] at nT; cases nT
    replace F := F.kept k2
    repeat tb_rel
    exact hQ _ _ _ _ _ _ F.oldG F.T oa.hp oT.hp hne hT (hfz _ (F.get (List.mem_cons_self ..)))
theorem ga_padinfo2 {g : BG} {x : Bool} (hA : AOk A 34) (X : Top w hp) (T : TabOk hp) (H : Eng (strike hp) p e chars big) (hch : ∀ p < 64, (chars.getD p 0).toNat < 128)
   (hQ : ∀ h' (g' : BG) t' Tp a u, KeepsG hp h' → TabOk h' → hp.get? a = none → hp.get? Tp = none → a ≠ Tp → IsPair h' Tp (.int (Builtin.bitNot (padB2 big : Int)) u) (.ref a) → FrozOf (mixKind w) h' a (padS chars (padB2 big)) → Q (.ref Tp) ⟨h', g', d, t', os⟩) :
    wpAny (model pg w) A (getAttr (.ref e) "_padinfo2" x) Q E ⟨hp, g, d, t, os⟩ := by
  refine get_bind (g := .builtin "property.__get__") (a := .ref 171) X (H.keep (fun b o e => (strike_of e).2)).inst (e_ga _) (by kernel_rfl) (e_gn _) ?_
  refine wpAny_call (prop_get (fget := 170) (rest := [.none, .none, .none, .str "_padinfo2" 438, .bool false]) X ?_ ?_)
  · kernel_rfl
  · exact padinfo2_code (AOk.in1 (hA.less (by omega))) X T H hch fun h' g' t' Tp a u k1 k2 k3 k4 k5 k6 k7 => wpAny_pure (hQ h' g' t' Tp a u k1 k2 k3 k4 k5 k6 k7)
def padB3 (big : Bool) : Nat := if big then 3 else 48
theorem padinfo3_code {g : BG} (hA : AOk A 32) (X : Top w hp) (T : TabOk hp) (H : Eng (strike hp) p e chars big) (hch : ∀ p < 64, (chars.getD p 0).toNat < 128)
   (hQ : ∀ h' (g' : BG) t' Tp a u, KeepsG hp h' → TabOk h' → hp.get? a = none → hp.get? Tp = none → a ≠ Tp → IsPair h' Tp (.int (Builtin.bitNot (padB3 big : Int)) u) (.ref a) → FrozOf (mixKind w) h' a (padS chars (padB3 big)) → Q (.ref Tp) ⟨h', g', d, t', os⟩) :
   codeAny (model pg w) A (.call (.ref 178) ⟨[.ref e], []⟩) (CodeQ Q E) ⟨hp, g, d, t, os⟩ := by
  refine call_fnC (n := 30) (binds := [("self", .ref e)]) hA X T fn178 (by rfl) (by rfl) (by rfl) (by decide) (by rfl) ?_
  intro h₁ t₁ L F hA'
  replace X := X.strike
  refine s_join (fun s' => ∃ h' t' m u, s' = ⟨h', g, d, t', os⟩ ∧ WkT (strike hp) L [] h' h' m (fun _ => none) [] ∧ m "self" = some (.ref e) ∧ m "bits" = some (.int (padB3 big : Int) u)) ?_ ?_
  · repeat tb_rel
    refine ga_big (F.top X) (H.keep F.old) ?_
    intro _
    cases big with
    | true =>
      repeat tb_rel
      refine ⟨rfl, _, _, _, _, rfl, F.mark, by with_unfolding_all rfl, by with_unfolding_all rfl⟩
    | false =>
      repeat tb_rel
      refine i_shl (by decide) (by decide) (by decide) ?_
      intro _ _
      repeat tb_rel
      refine ⟨rfl, _, _, _, _, rfl, F.mark, by with_unfolding_all rfl, by with_unfolding_all rfl⟩
  · rintro s' ⟨h, t, m, u, rfl, F, m1, m2⟩
    repeat tb_rel
    refine e_tup ?_
    repeat tb_rel
    refine MethodCall_ ?_ (by rfl)
    repeat tb_rel
    refine gm_fn (f := 163) (F.top X) (H.keep F.old) (by kernel_rfl) (by kernel_rfl) (by kernel_rfl) ?_
    repeat tb_rel
    refine padset_ok (B := padB3 big) (by cases big <;> simp [padB3]) (hA'.less (by omega)) (F.top X) F.T (H.keep F.oldS) hch ?_
    intro h' g' t' a k T' na hz
    have oa := F.ownNew na
    replace F := F.keptG k T'
    obtain ⟨o, ho, hfz⟩ := hz.obj
    replace F := F.ownIn ho oa
    repeat tb_rel
    refine ⟨by show 2 ≤ 16777216; decide, ?_⟩
    intro h2 Tp k2 hT nT
    have oT := F.ownNew nT
    have hne : a ≠ Tp := fun x => by rw [← x, F.get (List.mem_cons_self ..)] at nT; cases nT
    replace F := F.kept k2
    repeat tb_rel
    exact hQ _ _ _ _ _ _ F.oldG F.T oa.hp oT.hp hne hT (hfz _ (F.get (List.mem_cons_self ..)))
theorem ga_padinfo3 {g : BG} {x : Bool} (hA : AOk A 34) (X : Top w hp) (T : TabOk hp) (H : Eng (strike hp) p e chars big) (hch : ∀ p < 64, (chars.getD p 0).toNat < 128)
   (hQ : ∀ h' (g' : BG) t' Tp a u, KeepsG hp h' → TabOk h' → hp.get? a = none → hp.get? Tp = none → a ≠ Tp → IsPair h' Tp (.int (Builtin.bitNot (padB3 big : Int)) u) (.ref a) → FrozOf (mixKind w) h' a (padS chars (padB3 big)) → Q (.ref Tp) ⟨h', g', d, t', os⟩) :
    wpAny (model pg w) A (getAttr (.ref e) "_padinfo3" x) Q E ⟨hp, g, d, t, os⟩ := by
  refine get_bind (g := .builtin "property.__get__") (a := .ref 179) X (H.keep (fun b o e => (strike_of e).2)).inst (e_ga _) (by kernel_rfl) (e_gn _) ?_
  refine wpAny_call (prop_get (fget := 178) (rest := [.none, .none, .none, .str "_padinfo3" 447, .bool false]) X ?_ ?_)
  · kernel_rfl
  · exact padinfo3_code (AOk.in1 (hA.less (by omega))) X T H hch fun h' g' t' Tp a u k1 k2 k3 k4 k5 k6 k7 => wpAny_pure (hQ h' g' t' Tp a u k1 k2 k3 k4 k5 k6 k7)
end
end
section
def strL (l : List Nat) : Str := ⟨l.toArray⟩
theorem strL_len (l : List Nat) : (strL l).length = l.length := by show (l.toArray).size = _; simp
theorem strOf_L (b : Array UInt8) : strOf b = strL (natsOf b) := by
  unfold strOf strL natsOf
  congr 1
  apply Array.ext'
  simp
theorem take_fm (l : List Nat) : ∀ k, k ≤ l.length → (List.range k).filterMap (fun i => l.toArray[i]?) = l.take k := by
  intro k hk
  induction k with
  | zero => simp
  | succ k ih =>
    rw [List.range_succ, List.filterMap_append, ih (by omega), List.take_succ]
    congr 1
    have hk' : k < l.length := by omega
    simp [List.filterMap_cons, hk']
theorem slice_to (l : List Nat) (j : Int) (k : Nat) (hk : k ≤ l.length) (e : max 0 (min (if j < 0 then j + (l.length : Int) else j) (l.length : Int)) = (k : Int)) : Txt.slice (strL l) none (some j) = strL (l.take k) := by
  have hi : Builtin.Str.strSliceIndices none (some j) 1 (strL l).length = List.range k := by
    unfold Builtin.Str.strSliceIndices sliceRange
    simp only [strL_len, show (1 : Int) > 0 by decide, if_true, e, Int.ediv_one, Int.one_mul, Int.zero_add]
    by_cases h0 : (0 : Int) < (k : Int)
    · rw [if_pos h0, show ((k : Int) - 0 + 1 - 1).toNat = k by omega]
      apply List.ext_getElem?
      intro i
      rw [List.getElem?_map]
      rcases Nat.lt_or_ge i k with h | h
      · simp [h]
      · simp [h]
    · rw [if_neg h0]
      have : k = 0 := by omega
      subst this; rfl
  unfold Txt.slice
  rw [hi]
  by_cases hf : k = l.length
  · rw [if_pos (by simp [strL_len, hf]), hf, List.take_length]
  · rw [if_neg (by simp [strL_len, hf])]
    show (⟨((List.range k).filterMap (fun i => l.toArray[i]?)).toArray⟩ : Str) = _
    rw [take_fm l k hk]; rfl
theorem slice_m1 (l : List Nat) (h : l ≠ []) : Txt.slice (strL l) none (some (-1)) = strL l.dropLast := by
  have := List.length_pos_iff.mpr h
  rw [slice_to l (-1) (l.length - 1) (by omega) (by rw [if_pos (by decide)]; omega), List.dropLast_eq_take]
theorem slice_nat (l : List Nat) (k : Nat) (h : k ≤ l.length) : Txt.slice (strL l) none (some (k : Int)) = strL (l.take k) := slice_to l k k h (by rw [if_neg (by omega)]; omega)
theorem item_at (l : List Nat) (i : Int) (k : Nat) (hk : k < l.length) (e : seqIndex? i l.length = some k) : Txt.item (strL l) i = strL [l.getD k 0] := by
  unfold Txt.item Txt.charAt
  rw [strL_len, e]
  show (⟨#[((some k).bind (fun j => l.toArray[j]?)).getD 0]⟩ : Str) = _
  rw [Option.bind_some]
  unfold strL
  congr 2
  simp [hk]
theorem sub_iff (l : List Nat) (c i : Nat) : Builtin.Str.subAt (strL l) (strL [c]) i = true ↔ l[i]? = some c := by
  unfold Builtin.Str.subAt
  rw [show (strL [c]).length = 1 from rfl, show (strL l).cps = l.toArray from rfl, show (strL [c]).cps = #[c] from rfl, beq_iff_eq]
  constructor
  · intro e
    have h1 := congrArg (fun a : Array Nat => a[0]?) e
    simp only [Array.getElem?_extract] at h1
    simp at h1
    exact h1.2
  · intro e
    have hi := (List.getElem?_eq_some_iff.mp e).1
    apply Array.ext_getElem?
    intro j
    rw [Array.getElem?_extract]
    simp
    cases j with
    | zero => simp only [Nat.add_zero]; rw [if_pos (by omega), e]; rfl
    | succ j => rw [if_neg (by omega)]; simp
theorem occ_at (l : List Nat) (c i : Nat) (h : l[i]? = some c) (hu : ∀ j, l[j]? = some c → j = i) : ∃ rest, Builtin.Str.occurrences (strL l) (strL [c]) 0 (strL l).length 1 = i :: rest := by
  have hi := (List.getElem?_eq_some_iff.mp h).1
  have hat : StrLaws.At (strL l) (strL [c]) (strL l).length i := ⟨by rw [strL_len, strL_len]; simp only [List.length_cons, List.length_nil]; omega, (sub_iff l c i).mpr h⟩
  rcases StrLaws.occ_head (strL l) (strL [c]) 1 (Nat.le_refl _) with ⟨_, hn⟩ | ⟨j, r, e, ha, _⟩
  · exact absurd hat (hn i)
  · obtain rfl := hu j ((sub_iff l c j).mp ha.2)
    exact ⟨r, e⟩
section
variable {w : World} {A : Around} {M : Model} {n : Nat} {E : Value → Shared → Prop} {Q : Value → Shared → Prop} {hp : Heap} {g : Array GenState} {d : Drawn} {t : Nat} {os : OsState} {env : Env} {s : Shared} {t1 t2 : Tok}
theorem r_slen {l : List Nat} (hl : l.length ≤ 1000000) (k : ∀ x y, Q (.int (l.length : Int) x) ⟨hp, g, d, y, os⟩) : wpAny (model pg w) A (call (.builtin "len") [.str (strL l) t1]) Q E ⟨hp, g, d, t, os⟩ :=
  len_str (by rw [strL_len]; omega) (by rw [strL_len]; exact k _ _)
theorem tl_S {value slice : PySem.Expr} {l : List Nat} {j : Int} {uj : Tok} {kk : Nat} (hk : kk ≤ l.length) (e : max 0 (min (if j < 0 then j + (l.length : Int) else j) (l.length : Int)) = (kk : Int)) (hz : l.length ≤ 1000000)
    (k : ∀ h' t' u', Keeps hp h' → Q (.str (strL (l.take kk)) u') ⟨h', g, d, t', os⟩)
    (hs : ∀ r, subscripted slice false (.str (strL l) t1) (.ref r) = operate [.ref r, .str (strL l) t1] (getItem (.str (strL l) t1) (.ref r)))
    (ht : ∀ r, letTemporaryGo value (.str (strL l) t1) r = pure ()) :
    TailSl (model pg w) A E value slice (.str (strL l) t1) .none (.int j uj) Q ⟨hp, g, d, t, os⟩ := by
  refine tail_of_ItemOn (SBH.sliceItem_ns (s := ⟨hp, g, d, t, os⟩) (P := fun h => Keeps hp h) (fun h ob a b o e => Heap.get?_push_of_some _ (a b o e)) Keeps.refl (fun h' t' k' a => ?_) (by rw [strL_len, sizeLine_eq]; omega)) (hs _) ht
  rw [slice_to l j kk hk e]
  exact k _ _ _ a
theorem tl_Si {value slice : PySem.Expr} {l : List Nat} {i : Int} {ui : Tok} {kk : Nat} (hk : kk < l.length) (h0 : -(l.length : Int) ≤ i) (h1 : i < (l.length : Int)) (e : seqIndex? i l.length = some kk) (hz : l.length ≤ 1000000)
    (k : ∀ x y, Q (.str (strL [l.getD kk 0]) x) ⟨hp, g, d, y, os⟩)
    (hs : subscripted slice false (.str (strL l) t1) (.int i ui) = operate [.str (strL l) t1, .int i ui] (getItem (.str (strL l) t1) (.int i ui)))
    (ht : ∀ r, letTemporaryGo value (.str (strL l) t1) r = pure ()) :
    wpAny (model pg w) A (subscriptTail value slice (.str (strL l) t1) (.int i ui)) Q E ⟨hp, g, d, t, os⟩ :=
  KXi.item (strL_len l) h0 h1 (by omega) (fun _ => by rw [item_at l i kk hk e]; exact k _ _) hs ht
theorem s_add {a b : List Nat} (hz : a.length + b.length ≤ 1000000) (k : ∀ x y, Q (.str (strL (a ++ b)) x) ⟨hp, g, d, y, os⟩) : wpAny (model pg w) A (binaryOp .Add (.str (strL a) t1) (.str (strL b) t2)) Q E ⟨hp, g, d, t, os⟩ := by
  have e : strL a ++ strL b = strL (a ++ b) := by
    show (⟨(strL a).cps ++ (strL b).cps⟩ : Str) = _
    unfold strL; simp
  exact add_str (fun t' k' => by rw [e]; exact k t' k') (by rw [strL_len, strL_len, sizeLine_eq]; omega)
theorem s_eq {a b : List Nat} (k : Q (.bool (a == b)) ⟨hp, g, d, t, os⟩) : wpAny (model pg w) A (compareOp .Eq (.str (strL a) t1) (.str (strL b) t2)) Q E ⟨hp, g, d, t, os⟩ := PySem.P.eq_str (by simpa [strL] using k)
theorem s_ne {a b : List Nat} (k : Q (.bool (a != b)) ⟨hp, g, d, t, os⟩) : wpAny (model pg w) A (compareOp .NotEq (.str (strL a) t1) (.str (strL b) t2)) Q E ⟨hp, g, d, t, os⟩ := PySem.P.ne_str (by simpa [strL] using k)
theorem s_index {l : List Nat} {c i : Nat} (h : l[i]? = some c) (hu : ∀ j : Nat, l[j]? = some c → j = i) (k : ∀ x y, Q (.int (i : Int) x) ⟨hp, g, d, y, os⟩) : wpAny (model pg w) A (call (.builtin "str.index") [.str (strL l) t1, .str (strL [c]) t2]) Q E ⟨hp, g, d, t, os⟩ := by
  obtain ⟨r, e⟩ := occ_at l c i h hu
  exact SC.index e (k _ _)
end
end
end
section
section
structure Chs (chars : Array UInt8) : Prop where
  size : chars.size = 64
  asc : ∀ p < 64, (chars.getD p 0).toNat < 128
  inj : ∀ i j, i < 64 → j < 64 → (chars.getD i 0).toNat = (chars.getD j 0).toNat → i = j
def cl (chars : Array UInt8) (v : Nat) : Nat := (chars.getD v 0).toNat
def wordL (chars : Array UInt8) (vs : List Nat) : List Nat := vs.map (cl chars)
def wordB (chars : Array UInt8) (vs : List Nat) : Array UInt8 := (vs.map fun v => chars.getD v 0).toArray
theorem mem_pass (pz : Nat → Bool) (n v : Nat) : v ∈ passing pz n 0 ↔ v < n ∧ pz v = true := by
  unfold passing; simp [List.mem_filter]
theorem pad_any {chars : Array UInt8} (C : Chs chars) (B v : Nat) (hv : v < 64) : (List.range (padN B)).any (fun j => decide (cl chars v = cl chars (padI B j))) = pzB B v := by
  have hI : ∀ j, j < padN B → padI B j < 64 ∧ pzB B (padI B j) = true ∧ padI B j ∈ passing (pzB B) 64 0 := by
    intro j hj
    have hm : padI B j ∈ passing (pzB B) 64 0 := by
      unfold padI
      have hj' : j < (passing (pzB B) 64 0).length := hj
      rw [List.getD_eq_getElem?_getD, List.getElem?_eq_getElem hj']
      exact List.getElem_mem hj'
    have := (mem_pass _ _ _).mp hm
    exact ⟨this.1, this.2, hm⟩
  cases hp : pzB B v with
  | false =>
    rw [List.any_eq_false]
    intro j hj hd
    have hd := of_decide_eq_true hd
    obtain ⟨h1, h2, _⟩ := hI j (List.mem_range.mp hj)
    rw [C.inj v _ hv h1 hd] at hp
    rw [hp] at h2; cases h2
  | true =>
    rw [List.any_eq_true]
    have hm := (mem_pass (pzB B) 64 v).mpr ⟨hv, hp⟩
    obtain ⟨j, hj, e⟩ := List.mem_iff_getElem.mp hm
    refine ⟨j, List.mem_range.mpr hj, decide_eq_true ?_⟩
    have : padI B j = v := by unfold padI; rw [List.getD_eq_getElem?_getD, List.getElem?_eq_getElem hj, e]; rfl
    rw [this]
theorem any_congr' {α : Type} {l : List α} {p q : α → Bool} (h : ∀ x ∈ l, p x = q x) : l.any p = l.any q := by
  induction l with
  | nil => rfl
  | cons x r ih => rw [List.any_cons, List.any_cons, h x (List.mem_cons_self ..), ih fun y hy => h y (List.mem_cons_of_mem _ hy)]
theorem pad_int {chars : Array UInt8} (C : Chs chars) (B v : Nat) (hv : v < 64) : padS chars B (.inl ((chars.getD v 0).toNat : Int)) = pzB B v := by
  unfold padS met
  rw [show (List.range (padN B)).any (fun j => decide ((Sum.inl ((chars.getD v 0).toNat : Int) : Kx) = padK2 chars B j)) = false by
    rw [List.any_eq_false]; intro j _ hd; have := of_decide_eq_true hd; unfold padK2 at this; cases this]
  rw [Bool.or_false, Bool.false_or, ← pad_any C B v hv]
  refine any_congr' fun j _ => ?_
  rw [decide_eq_decide]
  unfold padK1 cl
  constructor
  · intro e; injection e with e; omega
  · intro e; rw [e]
theorem pad_str {chars : Array UInt8} (C : Chs chars) (B v : Nat) (hv : v < 64) : padS chars B (.inr (strL [cl chars v])) = pzB B v := by
  unfold padS met
  rw [show (List.range (padN B)).any (fun j => decide ((Sum.inr (strL [cl chars v]) : Kx) = padK1 chars B j)) = false by
    rw [List.any_eq_false]; intro j _ hd; have := of_decide_eq_true hd; unfold padK1 at this; cases this]
  rw [Bool.or_false, Bool.false_or, ← pad_any C B v hv]
  refine any_congr' fun j _ => ?_
  rw [decide_eq_decide]
  unfold padK2 strL
  constructor
  · intro e; injection e with e; injection e with e; simpa [cl] using e
  · intro e
    unfold cl at e
    rw [show [cl chars v].toArray = #[cl chars v] from rfl]
    unfold cl
    rw [e]
/-- the bits that a last sign has free -/
def padBx (big : Bool) (n : Nat) : Nat := if n % 4 = 2 then padB2 big else if n % 4 = 3 then padB3 big else 0
def fixD (B v : Nat) : Nat := v - (v &&& B)
theorem fix_bits {B v : Nat} (hB : B = 15 ∨ B = 60 ∨ B = 3 ∨ B = 48) (hv : v < 64) : Builtin.bitAnd (v : Int) (Builtin.bitNot (B : Int)) = ((fixD B v : Nat) : Int) ∧ fixD B v < 64 ∧ pzB B (fixD B v) = true := by
  have h : ∀ v : Nat, v < 64 → (Builtin.bitAnd (v : Int) (Builtin.bitNot ((15 : Nat) : Int)) = ((fixD 15 v : Nat) : Int) ∧ fixD 15 v < 64 ∧ pzB 15 (fixD 15 v) = true) ∧ (Builtin.bitAnd (v : Int) (Builtin.bitNot ((60 : Nat) : Int)) = ((fixD 60 v : Nat) : Int) ∧ fixD 60 v < 64 ∧ pzB 60 (fixD 60 v) = true) ∧ (Builtin.bitAnd (v : Int) (Builtin.bitNot ((3 : Nat) : Int)) = ((fixD 3 v : Nat) : Int) ∧ fixD 3 v < 64 ∧ pzB 3 (fixD 3 v) = true) ∧ (Builtin.bitAnd (v : Int) (Builtin.bitNot ((48 : Nat) : Int)) = ((fixD 48 v : Nat) : Int) ∧ fixD 48 v < 64 ∧ pzB 48 (fixD 48 v) = true) := by decide +kernel
  obtain ⟨h1, h2, h3, h4⟩ := h v hv
  rcases hB with rfl | rfl | rfl | rfl <;> assumption
theorem padB_in (big : Bool) : (padB2 big = 15 ∨ padB2 big = 60 ∨ padB2 big = 3 ∨ padB2 big = 48) ∧ (padB3 big = 15 ∨ padB3 big = 60 ∨ padB3 big = 3 ∨ padB3 big = 48) := by
  cases big <;> simp [padB2, padB3]
theorem fix_same {B v : Nat} (h : pzB B v = true) : fixD B v = v := by
  unfold fixD; unfold pzB at h; rw [beq_iff_eq.mp h]; rfl
end
section

end
end
section
local macro_rules | `(tactic| lcg_off) => `(tactic| (intro $(Lean.mkIdent `h) _ $(Lean.mkIdent `k); (first | replace $(Lean.mkIdent `F) := WkT.kept $(Lean.mkIdent `F) $(Lean.mkIdent `k) | replace $(Lean.mkIdent `F) := Wk.kept $(Lean.mkIdent `F) $(Lean.mkIdent `k)); clear $(Lean.mkIdent `k)))
local macro_rules | `(tactic| lcg_src) => `(tactic| (intro $(Lean.mkIdent `h) _ _ $(Lean.mkIdent `k); (first | replace $(Lean.mkIdent `F) := WkT.kept $(Lean.mkIdent `F) $(Lean.mkIdent `k) | replace $(Lean.mkIdent `F) := Wk.kept $(Lean.mkIdent `F) $(Lean.mkIdent `k)); clear $(Lean.mkIdent `k)))
local macro_rules | `(tactic| x_close) => `(tactic| first
  | exact $(Lean.mkIdent `hk) _ _ Keeps.refl
  | exact $(Lean.mkIdent `hk) _ _ (keeps_of_mem (by assumption))
  | exact $(Lean.mkIdent `hk) _ _ _ Keeps.refl
  | exact $(Lean.mkIdent `hk) _ _ _ (keeps_of_mem (by assumption))
  | (apply $(Lean.mkIdent `hk); assumption)
  | (exact $(Lean.mkIdent `hk) _ _ _ (keeps_of_mem (by assumption)) (X.Mem.nw (by assumption) _ (List.mem_cons_self ..)).1 (X.Mem.nw (by assumption) _ (List.mem_cons_self ..)).2)
)
local macro_rules | `(tactic| tb_rel) => `(tactic| first
  | (with_reducible show wpAny _ _ (eval (Expr.Name _ _) _) _ _ _; first
      | with_reducible refine tL $(Lean.mkIdent `F) (by with_unfolding_all first | rfl | assumption) ?_ (by with_unfolding_all rfl) (by with_unfolding_all rfl) (by with_unfolding_all rfl) (by with_unfolding_all decide)
      | with_reducible refine tC $(Lean.mkIdent `F) (by with_unfolding_all first | rfl | assumption) ?_ (by with_unfolding_all rfl) (by with_unfolding_all rfl) (by with_unfolding_all rfl) (by with_unfolding_all rfl) (by with_unfolding_all decide)
      | with_reducible refine tGl $(Lean.mkIdent `X) $(Lean.mkIdent `F) (by with_unfolding_all rfl) ?_ (by with_unfolding_all rfl) (by with_unfolding_all rfl) (by with_unfolding_all rfl) (by with_unfolding_all rfl) (by with_unfolding_all decide)
      | with_reducible refine wL $(Lean.mkIdent `F) (by with_unfolding_all first | rfl | assumption) ?_ (by with_unfolding_all rfl) (by with_unfolding_all rfl) (by with_unfolding_all rfl) (by with_unfolding_all decide)
      | with_reducible refine wFr $(Lean.mkIdent `F) (by with_reducible assumption) (by with_unfolding_all first | rfl | assumption) ?_ (by with_unfolding_all rfl) (by with_unfolding_all rfl) (by with_unfolding_all rfl) (by with_unfolding_all decide) (by with_unfolding_all decide)
      | with_reducible refine wGl $(Lean.mkIdent `X) $(Lean.mkIdent `F) (by with_unfolding_all rfl) ?_ (by with_unfolding_all rfl) (by with_unfolding_all rfl) (by with_unfolding_all rfl) (by with_unfolding_all rfl) (by with_unfolding_all decide))
  | (with_reducible show wpAny _ _ (eval _ _) _ _ _; first
      | with_reducible refine e_int ?_
      | with_reducible refine e_str ?_
      | with_reducible refine wpAny_BinOp ?_
      | with_reducible refine wpAny_Compare1 ?_
      | with_reducible refine wpAny_UnaryOp ?_
      | with_reducible refine callN ?_
      | with_reducible refine sub_sl ?_
      | with_reducible refine sub_ix ?_
      | with_reducible refine s_ifx ?_
      | with_reducible refine Attribute_name ?_
      | with_reducible refine e_bool ?_
      | with_reducible refine e_none ?_)
  | (with_reducible show wpAny _ _ (execs _ _) _ _ _; first
      | with_reducible refine s_cons ?_
      | with_reducible refine s_nil ?_)
  | (with_reducible show wpAny _ _ (exec _ _) _ _ _; first
      | with_reducible refine wpAny_Assign_Name ?_ (by with_unfolding_all rfl)
      | with_reducible refine s_if ?_
      | with_reducible refine wpAny_Return_some ?_
      | with_reducible refine wpAny_AugAssign_Name ?_
      | with_reducible refine s_for ?_ (by intro _; with_unfolding_all rfl)
      | with_reducible refine wpAny_Assert_holds ?_)
  | (with_reducible show wpAny _ _ (storeName _ _ _) _ _ _; first
      | (with_reducible refine tstL $(Lean.mkIdent `F) ?_ (by with_unfolding_all rfl) (by with_unfolding_all rfl) (by with_unfolding_all rfl); clear $(Lean.mkIdent `F); intro _ _ $(Lean.mkIdent `F))
      | (with_reducible refine tstC $(Lean.mkIdent `F) ?_ (by with_unfolding_all rfl) (by with_unfolding_all rfl) (by with_unfolding_all rfl) (by with_unfolding_all rfl); clear $(Lean.mkIdent `F); intro _ _ $(Lean.mkIdent `F))
      | (with_reducible refine wstL $(Lean.mkIdent `F) ?_ (by with_unfolding_all rfl) (by with_unfolding_all rfl) (by with_unfolding_all rfl); clear $(Lean.mkIdent `F); intro _ _ $(Lean.mkIdent `F)))
  | (with_reducible show wpAny _ _ (loadName _ _) _ _ _; first
      | with_reducible refine tldL $(Lean.mkIdent `F) (by with_unfolding_all first | rfl | assumption) ?_ (by with_unfolding_all rfl) (by with_unfolding_all rfl) (by with_unfolding_all rfl)
      | with_reducible refine tldC $(Lean.mkIdent `F) (by with_unfolding_all first | rfl | assumption) ?_ (by with_unfolding_all rfl) (by with_unfolding_all rfl) (by with_unfolding_all rfl) (by with_unfolding_all rfl)
      | with_reducible refine wldL $(Lean.mkIdent `F) (by with_unfolding_all first | rfl | assumption) ?_ (by with_unfolding_all rfl) (by with_unfolding_all rfl) (by with_unfolding_all rfl))
  | (with_reducible show wpAny _ _ (spliced _) _ _ _; first
      | with_reducible refine wpAny_items_cons ?_ (by with_unfolding_all rfl)
      | with_reducible refine wpAny_items_nil ?_)
  | (with_reducible show wpAny _ _ (callWith _ _ _ _ _) _ _ _; first
      | with_reducible refine callB ?_ (by with_unfolding_all rfl) (by with_unfolding_all rfl)
      | with_reducible refine callT ?_ (by with_unfolding_all rfl) (by with_unfolding_all rfl)
      | with_reducible refine callKn $(Lean.mkIdent `X) (by kernel_rfl) ?_ (by with_unfolding_all rfl) (by with_unfolding_all rfl))
  | (with_reducible show wpAny _ _ (isTrue _ _ _) _ _ _; first
      | with_reducible refine wpAny_isTrue_Compare1 ?_
      | with_reducible refine wpAny_isTrue_Not ?_
      | with_reducible refine wpAny_isTrue_BoolOp ?_
      | with_reducible refine wpAny_isTrue_value ?_ (by with_unfolding_all rfl))
  | (with_reducible show wpAny _ _ (truthy _) _ _ _; first
      | with_reducible refine t_bool ?_
      | with_reducible refine t_int ?_)
  | (with_reducible show wpAny _ _ (compareOp _ _ _) _ _ _; first
      | with_reducible refine i_eq ?_
      | with_reducible refine i_ne ?_
      | with_reducible refine i_lt ?_
      | with_reducible refine i_gt ?_
      | with_reducible refine i_ge ?_
      | with_reducible refine is_nn ?_)
  | (with_reducible show wpAny _ _ (binaryOp _ _ _) _ _ _; first
      | (with_reducible refine n_and63 ?_; intro _ _)
      | (with_reducible refine n_and15 ?_; intro _ _)
      | (with_reducible refine n_and3 ?_; intro _ _)
      | (with_reducible refine n_or ?_; intro _ _)
      | (with_reducible refine n_shr2 ?_; intro _ _)
      | (with_reducible refine n_shr4 ?_; intro _ _)
      | (with_reducible refine n_shr6 ?_; intro _ _)
      | (with_reducible refine n_shl2 (by omega) ?_; intro _ _)
      | (with_reducible refine n_shl4 (by omega) ?_; intro _ _)
      | (with_reducible refine n_shl6 (by omega) ?_; intro _ _)
      | (with_reducible refine i_add ?_; intro _ _)
      | (with_reducible refine i_sub ?_; intro _ _)
      | (with_reducible refine i_and ?_; intro _ _)
      | (with_reducible refine i_or ?_; intro _ _)
      | (with_reducible refine i_xor ?_; intro _ _))
  | (with_reducible show wpAny _ _ (inplaceOp _ _ _) _ _ _; first
      | (with_reducible refine i_iand ?_; intro _ _)
      | (with_reducible refine i_ior ?_; intro _ _)
      | (with_reducible refine i_iadd ?_; intro _ _))
  | (with_reducible show wpAny _ _ (unaryOp _ _) _ _ _; first
      | (with_reducible refine i_neg ?_; intro _ _)
      | (with_reducible refine i_inv ?_; intro _ _))
  | (with_reducible show wpAny _ _ (evalPart _ _) _ _ _; first
      | with_reducible refine part0 ?_
      | with_reducible refine part1 ?_)
  | with_reducible refine then_next ?_
  | with_reducible refine then_ret ?_
  | with_reducible refine br_t ?_
  | with_reducible refine br_f ?_
  | with_reducible refine br_nt ?_
  | with_reducible refine br_nf ?_
  | with_reducible refine And.intro (fun _ => WkT.top $(Lean.mkIdent `F) $(Lean.mkIdent `X)) ?_
  | with_reducible refine And.intro (fun _ => Wk.top $(Lean.mkIdent `F) $(Lean.mkIdent `X)) ?_
  | with_reducible refine retQ ?_
  | with_reducible refine brE_t ?_
  | with_reducible refine brE_f ?_)
section
section
variable {w : World} {A : Around} {n : Nat} {E : Value → Shared → Prop} {Q : Value → Shared → Prop} {hp h : Heap} {g : Array GenState} {d : Drawn} {t : Nat} {os : OsState} {p : EngP} {e : Addr} {chars : Array UInt8} {big : Bool} {t1 t2 : Tok} {vs : List Nat}
theorem x_isinst_str_str {x : Str} {t1 : Tok} (X : Frag.In (K1 w.params) h) (hk : ∀ h' t', Keeps h h' → Q (.bool true) ⟨h', g, d, t', os⟩) :
    wpAny (model pg w) AX (call (.builtin "isinstance") [.str x t1, .type "str"]) Q E ⟨h, g, d, t, os⟩ := by x_run
theorem x_isinst_str_bytes {x : Str} {t1 : Tok} (X : Frag.In (K1 w.params) h) (hk : ∀ h' t', Keeps h h' → Q (.bool false) ⟨h', g, d, t', os⟩) :
    wpAny (model pg w) AX (call (.builtin "isinstance") [.str x t1, .type "bytes"]) Q E ⟨h, g, d, t, os⟩ := by x_run
def tupObj (a b : Value) : Obj := ⟨.type "tuple", none, .seq #[a, b] 0, #[]⟩
def fixL (B : Nat) (vs : List Nat) : List Nat := vs.dropLast ++ [fixD B (vs.getLastD 0)]
theorem mod4 (n : Nat) : Builtin.bitAnd (n : Int) 3 = ((n % 4 : Nat) : Int) := and_mask n 2 3 rfl
theorem wordL_len (chars : Array UInt8) (vs : List Nat) : (wordL chars vs).length = vs.length := by unfold wordL; simp
theorem wordB_size (chars : Array UInt8) (vs : List Nat) : (wordB chars vs).size = vs.length := by unfold wordB; simp
theorem last_at {vs : List Nat} (h : vs ≠ []) : vs.getLastD 0 = vs.getD (vs.length - 1) 0 := by
  have hp := List.length_pos_iff.mpr h
  rw [List.getD_eq_getElem?_getD, ← List.getLast?_eq_getElem?]
  cases vs with
  | nil => exact absurd rfl h
  | cons x r => simp
theorem last_lt {vs : List Nat} (hvs : ∀ v ∈ vs, v < 64) (h : vs ≠ []) : vs.getLastD 0 < 64 := by
  have hp := List.length_pos_iff.mpr h
  rw [last_at h, List.getD_eq_getElem?_getD, List.getElem?_eq_getElem (by omega)]
  exact hvs _ (List.getElem_mem _)
theorem wordL_at (chars : Array UInt8) (vs : List Nat) {i : Nat} (h : i < vs.length) : (wordL chars vs).getD i 0 = cl chars (vs.getD i 0) := by
  unfold wordL; simp [h]
theorem wordB_at (chars : Array UInt8) (vs : List Nat) {i : Nat} (h : i < vs.length) : (wordB chars vs).getD i 0 = chars.getD (vs.getD i 0) 0 := by
  unfold wordB; simp [h, Array.getD]
theorem seqM1 {n : Nat} (h : 0 < n) : seqIndex? (-1) n = some (n - 1) := by
  simp [seqIndex?]; omega
theorem seqN {k n : Nat} (h : k < n) : seqIndex? (k : Int) n = some k := by
  simp [seqIndex?]; omega
theorem dropLast_last {vs : List Nat} (h : vs ≠ []) : vs.dropLast ++ [vs.getLastD 0] = vs := by
  have e : vs.getLastD 0 = vs.getLast h := by rw [List.getLastD_eq_getLast?, List.getLast?_eq_some_getLast h]; rfl
  rw [e]; exact List.dropLast_concat_getLast h
theorem fix_pz0 (n : Nat) : pzB 0 n = true := by simp [pzB]
theorem fixL_same {B : Nat} {vs : List Nat} (h : vs ≠ []) (hp : pzB B (vs.getLastD 0) = true) : fixL B vs = vs := by
  unfold fixL; rw [fix_same hp, dropLast_last h]
theorem s_joinR {M : Model} {E : Value → Shared → Prop} {env : Env} {st : Stmt} {rest : List Stmt} {Q : Flow → Shared → Prop} {s : Shared} (J : Shared → Prop) (h1 : wpAny M A (exec st env) (fun f s => (f = .next ∧ J s) ∨ (∃ v, f = .ret v ∧ Q (.ret v) s)) E s) (h2 : ∀ s', J s' → wpAny M A (execs rest env) Q E s') : wpAny M A (execs (st :: rest) env) Q E s :=
  s_cons (wpAny_mono h1 (fun f s' q => by
    rcases q with ⟨rfl, q⟩ | ⟨v, rfl, q⟩
    · exact then_next (h2 s' q)
    · exact then_ret q) fun _ _ q => q)
theorem tl_bm1 {value slice : PySem.Expr} {b : Array UInt8} (h0 : 0 < b.size) (hz : b.size ≤ 1000000) (k : ∀ x y, Q (.int (((b.getD (b.size - 1) 0).toNat : Nat) : Int) x) ⟨hp, g, d, y, os⟩)
    (hs : subscripted slice false (.bytes b t1) (.int (-1) t2) = operate [.bytes b t1, .int (-1) t2] (getItem (.bytes b t1) (.int (-1) t2))) (ht : ∀ r, letTemporaryGo value (.bytes b t1) r = pure ()) :
    wpAny (model pg w) A (subscriptTail value slice (.bytes b t1) (.int (-1) t2)) Q E ⟨hp, g, d, t, os⟩ := by
  have e2 : (seqIndex? (-1) b.size).bind (b[·]?) = some (b.getD (b.size - 1) 0) := by
    have h2 : b.size - 1 < b.size := by omega
    rw [seqM1 h0, Option.bind_some]; simp [Array.getD, h2]
  refine tail_of_ItemOn (ops := [.bytes b t1, .int (-1) t2]) ⟨"bytes", _, FB.slot_bytes_getitem.lookup, typeIs_bytes _ _ _, getItem_gives (typeIs_bytes _ _ _) (by decide) FB.slot_bytes_getitem FB.entry_bytes_getitem (FB.args_bytes_getitem_2 _ _) (W.gives_bytes_getitem b (-1) t1 t2 _ (by decide) e2) ?_⟩ hs ht
  exact k _ _
theorem in_frozN {knd : KeyKind pg w Kx} {a : Addr} {S : Kx → Bool} {k : Kx} {x : Value} (hkey : knd.is k x = true) (hsc : x.scannable = true) (hS : FrozOf knd hp a S) (q : ∀ t, Q (.bool (S k)) ⟨hp, g, d, t, os⟩) : wpAny (model pg w) A (compareOp .In x (.ref a)) Q E ⟨hp, g, d, t, os⟩ :=
  in_froz (s := ⟨hp, g, d, t, os⟩) hkey hsc hS q
theorem dgetN {q dd : Addr} {G : Int → Option Value} {u : Tok} {i : Int} {v : Value} (ho : hp.get? q = some (bmObj "dict.__getitem__" (.ref dd))) (hm : hp.IntMap dd G) (hv : G i = some v) (k : ∀ t, Q v ⟨hp, g, d, t, os⟩) : wpAny (model pg w) A (call (.ref q) [.int i u]) Q E ⟨hp, g, d, t, os⟩ :=
  call_dget (s := ⟨hp, g, d, t, os⟩) ho hm hv k
theorem bgetN {q : Addr} {chars : Array UInt8} {tk u : Tok} {i : Nat} (ho : hp.get? q = some (wrapObj "bytes.__getitem__" (.bytes chars tk))) (hi : i < chars.size) (hz : chars.size ≤ 1000000)
    (k : ∀ u t, Q (.int (((chars.getD i 0).toNat : Nat) : Int) u) ⟨hp, g, d, t, os⟩) : wpAny (model pg w) A (call (.ref q) [.int (i : Int) u]) Q E ⟨hp, g, d, t, os⟩ :=
  call_bget (s := ⟨hp, g, d, t, os⟩) ho hi hz k
theorem bintsN {l : Addr} {vs : List Value} {ns : List Int} (hl : hp.IsList l vs.toArray) (hi : IntsAre vs ns) (hr : ∀ n ∈ ns, 0 ≤ n ∧ n < 256) (hz : vs.length ≤ 1000000) (hh : A.handled = none)
    (hQ : ∀ h' u t, Keeps hp h' → Q (.bytes (byteArr ns) u) ⟨h', g, d, t, os⟩) : wpAny (model pg w) A (call (.type "bytes") [.ref l]) Q E ⟨hp, g, d, t, os⟩ :=
  call_bytes_ints (s := ⟨hp, g, d, t, os⟩) hl hi hr (by rw [sizeLine_eq]; omega) hh fun h' t k hk => hQ h' t k hk
theorem tup_q {vs : List Value} (hl : vs.length ≤ 16777216) (k : ∀ h' l, Keeps hp h' → h'.get? l = some ⟨.type "tuple", none, .seq vs.toArray 0, #[]⟩ → hp.get? l = none → Q (.ref l) ⟨h', g, d, t, os⟩) : TupQ Q vs ⟨hp, g, d, t, os⟩ := ⟨hl, k⟩
theorem list_q {vs : List Value} (hl : vs.length ≤ 16777216) (k : ∀ h' l, Keeps hp h' → h'.get? l = some ⟨.type "list", none, .seq vs.toArray 0, #[]⟩ → hp.get? l = none → Q (.ref l) ⟨h', g, d, t, os⟩) : ListQ Q vs ⟨hp, g, d, t, os⟩ := ⟨hl, k⟩
theorem natsOf_at (chars : Array UInt8) {i : Nat} (h : i < chars.size) : (natsOf chars)[i]? = some (chars.getD i 0).toNat := by
  unfold natsOf; simp [h, Array.getD]

theorem chk_s {g : BG} (hvs : ∀ v ∈ vs, v < 64) (hne : vs ≠ []) (hl : vs.length ≤ 100) (h1 : vs.length % 4 ≠ 1) (hA : AOk A 36) (X : Top w hp) (T : TabOk hp) (H : Eng (strike hp) p e chars big) (C : Chs chars)
   (hQ : ∀ h' (g' : BG) t' Tp u, KeepsG hp h' → TabOk h' → hp.get? Tp = none → h'.get? Tp = some (tupObj (.bool (!pzB (padBx big vs.length) (vs.getLastD 0))) (.str (strL (wordL chars (fixL (padBx big vs.length) vs))) u)) → Q (.ref Tp) ⟨h', g', d, t', os⟩) :
   wpAny (model pg w) A (call (.ref 186) [.ref e, .str (strL (wordL chars vs)) t1]) Q E ⟨hp, g, d, t, os⟩ := by
  refine wpAny_call (call_fnC (n := 34) (binds := [("self", .ref e), ("source", .str (strL (wordL chars vs)) t1)]) hA X T fn186 (by rfl) (by rfl) (by rfl) (by decide) (by rfl) ?_)
  intro h₁ t₁ L F hA'
  replace X := X.strike
  have hlast := last_lt hvs hne
  have hpos := List.length_pos_iff.mpr hne
  refine s_cons ?_
  repeat tb_rel
  refine r_slen (by rw [wordL_len]; omega) ?_
  intro _ _
  rw [wordL_len]
  repeat ((fail_if_success (with_reducible refine at_if ?_)); tb_rel)
  refine s_joinR (fun s' => ∃ h', ∃ g' : BG, ∃ t' m B a u o, s' = ⟨h', g', d, t', os⟩ ∧ WkT (strike hp) L [] h' h' m (fun _ => none) [(a, o)] ∧ (∀ h : Heap, h.get? a = some o → FrozOf (mixKind w) h a (padS chars B)) ∧ m "self" = some (.ref e) ∧ m "source" = some (.str (strL (wordL chars vs)) t1) ∧
    m "mask" = some (.int (Builtin.bitNot (B : Int)) u) ∧ m "padset" = some (.ref a) ∧ B = padBx big vs.length ∧ (B = 15 ∨ B = 60 ∨ B = 3 ∨ B = 48)) ?_ ?_
  · repeat tb_rel
    have hr : vs.length % 4 = 0 ∨ vs.length % 4 = 2 ∨ vs.length % 4 = 3 := by omega
    rcases hr with hr | hr | hr
    · refine br_is false (by simp [hr]) ?_
      repeat tb_rel
      refine br_is false (by simp [hr]) ?_
      repeat tb_rel
      refine br_is true (by simp [hr]) ?_
      repeat tb_rel
      refine e_tup ?_
      repeat tb_rel
      refine tup_q (by simp) ?_
      intro h2 Tp k2 hT nT
      have oT := F.ownNew nT
      replace F := F.kept k2
      repeat tb_rel
      refine Or.inr ⟨_, rfl, ?_⟩
      repeat tb_rel
      have eB : padBx big vs.length = 0 := by unfold padBx; rw [if_neg (by omega), if_neg (by omega)]
      refine hQ _ _ _ _ t1 F.oldG F.T oT.hp ?_
      rw [eB, fix_pz0, fixL_same hne (fix_pz0 _)]
      exact hT
    · refine br_is true (by simp [hr]) ?_
      repeat tb_rel
      refine Assign_Tuple ?_ (by rfl) (by rfl)
      repeat tb_rel
      refine ga_padinfo2 (hA'.less (by omega)) (F.top X) F.T (H.keep F.oldS) C.asc ?_
      intro h' g' t' Tp a u k T' na nT haT hT hz
      have oa := F.ownNew na
      obtain ⟨o, ho, hfz⟩ := hz.obj
      replace F := (F.keptG k T').ownIn ho oa
      refine tasg2 hA'.hd F hT (fun h _ F => ?_) rfl rfl rfl rfl
      repeat tb_rel
      exact Or.inl ⟨rfl, _, _, _, _, padB2 big, a, _, o, rfl, F.mark, hfz, by with_unfolding_all rfl, by with_unfolding_all rfl, by with_unfolding_all rfl, by with_unfolding_all rfl, by unfold padBx; rw [if_pos hr], (padB_in big).1⟩
    · refine br_is false (by simp [hr]) ?_
      repeat tb_rel
      refine br_is true (by simp [hr]) ?_
      repeat tb_rel
      refine Assign_Tuple ?_ (by rfl) (by rfl)
      repeat tb_rel
      refine ga_padinfo3 (hA'.less (by omega)) (F.top X) F.T (H.keep F.oldS) C.asc ?_
      intro h' g' t' Tp a u k T' na nT haT hT hz
      have oa := F.ownNew na
      obtain ⟨o, ho, hfz⟩ := hz.obj
      replace F := (F.keptG k T').ownIn ho oa
      refine tasg2 hA'.hd F hT (fun h _ F => ?_) rfl rfl rfl rfl
      repeat tb_rel
      exact Or.inl ⟨rfl, _, _, _, _, padB3 big, a, _, o, rfl, F.mark, hfz, by with_unfolding_all rfl, by with_unfolding_all rfl, by with_unfolding_all rfl, by with_unfolding_all rfl, by unfold padBx; rw [if_neg (by omega), if_pos hr], (padB_in big).2⟩
  · rintro s' ⟨h, g', t, m, B, a, u, o, rfl, F, hfz, m1, m2, m3, m4, hB, hB4⟩
    rw [← hB] at hQ
    obtain ⟨f1, f2, f3⟩ := fix_bits hB4 hlast
    repeat tb_rel
    refine tl_Si (kk := vs.length - 1) (by rw [wordL_len]; omega) (by rw [wordL_len]; omega) (by rw [wordL_len]; omega) (by rw [wordL_len]; exact seqM1 hpos) (by rw [wordL_len]; omega) ?_ (by with_unfolding_all rfl) (by intro _; with_unfolding_all rfl)
    intro _ _
    rw [wordL_at chars vs (by omega), ← last_at hne]
    repeat tb_rel
    refine in_frozN (k := .inr (strL [cl chars (vs.getLastD 0)])) (by exact mix_str w _ _) rfl (hfz _ (F.get (List.mem_cons_self ..))) ?_
    intro _
    rw [pad_str C B _ hlast]
    repeat tb_rel
    cases hpz : pzB B (vs.getLastD 0) with
    | true =>
      refine br_is true rfl ?_
      repeat tb_rel
      refine e_tup ?_
      repeat tb_rel
      refine tup_q (by simp) ?_
      intro h2 Tp k2 hT nT
      have oT := F.ownNew nT
      replace F := F.kept k2
      repeat tb_rel
      refine hQ _ _ _ _ t1 F.oldG F.T oT.hp ?_
      rw [hpz, fixL_same hne hpz]
      exact hT
    | false =>
      refine br_is false rfl ?_
      repeat tb_rel
      refine up hA' (x_isinst_str_str (F.top X) ?_)
      lcg_off
      repeat tb_rel
      refine ga_charmap (hA'.less (by omega)) (F.top X) (H.keep F.old) ?_
      lcg_src
      rw [strOf_L]
      repeat tb_rel
      refine MethodCall_ ?_ (by rfl)
      repeat tb_rel
      refine GM.index ?_
      repeat tb_rel
      refine s_index (natsOf_at chars (by rw [C.size]; exact hlast)) (fun j hj => ?_) ?_
      · have hj' : j < 64 := by
          have := (List.getElem?_eq_some_iff.mp hj).1
          unfold natsOf at this
          rw [List.length_map, Array.length_toList, C.size] at this
          exact this
        rw [natsOf_at chars (by rw [C.size]; exact hj')] at hj
        exact C.inj _ _ hj' hlast (Option.some.inj hj)
      intro _ _
      repeat tb_rel
      rw [f1]
      have hns : (natsOf chars).length = 64 := by unfold natsOf; rw [List.length_map, Array.length_toList, C.size]
      refine tl_Si (kk := fixD B (vs.getLastD 0)) (by rw [hns]; exact f2) (by omega) (by rw [hns]; omega) (by rw [hns]; exact seqN f2) (by rw [hns]; omega) ?_ (by with_unfolding_all rfl) (by intro _; with_unfolding_all rfl)
      intro _ _
      rw [List.getD_eq_getElem?_getD, natsOf_at chars (by rw [C.size]; exact f2), Option.getD_some]
      repeat tb_rel
      refine in_frozN (k := .inr (strL [cl chars (fixD B (vs.getLastD 0))])) (by exact mix_str w _ _) rfl (hfz _ (F.get (List.mem_cons_self ..))) ?_
      intro _
      rw [pad_str C B _ f2, f3]
      repeat tb_rel
      refine ⟨rfl, ?_⟩
      repeat tb_rel
      refine e_tup ?_
      repeat tb_rel
      refine tl_S (kk := vs.length - 1) (by rw [wordL_len]; omega) (by rw [wordL_len, if_pos (by decide)]; omega) (by rw [wordL_len]; omega) ?_ (by intro _; with_unfolding_all rfl) (by intro _; with_unfolding_all rfl)
      lcg_src
      repeat tb_rel
      refine s_add (by simp only [List.length_take, wordL_len, List.length_cons, List.length_nil]; omega) ?_
      intro uu _
      repeat tb_rel
      refine tup_q (by simp) ?_
      intro h2 Tp k2 hT nT
      have oT := F.ownNew nT
      replace F := F.kept k2
      repeat tb_rel
      refine hQ _ _ _ _ uu F.oldG F.T oT.hp ?_
      rw [hpz]
      rw [show (wordL chars vs).take (vs.length - 1) ++ [(chars.getD (fixD B (vs.getLastD 0)) 0).toNat] = wordL chars (fixL B vs) by
        unfold fixL wordL
        rw [List.map_append, List.dropLast_eq_take, List.map_take]; rfl] at hT
      exact hT

theorem chk_b {g : BG} (hvs : ∀ v ∈ vs, v < 64) (hne : vs ≠ []) (hl : vs.length ≤ 100) (h1 : vs.length % 4 ≠ 1) (hA : AOk A 36) (X : Top w hp) (T : TabOk hp) (H : Eng (strike hp) p e chars big) (C : Chs chars)
   (hQ : ∀ h' (g' : BG) t' Tp u, KeepsG hp h' → TabOk h' → hp.get? Tp = none → h'.get? Tp = some (tupObj (.bool (!pzB (padBx big vs.length) (vs.getLastD 0))) (.bytes (wordB chars (fixL (padBx big vs.length) vs)) u)) → Q (.ref Tp) ⟨h', g', d, t', os⟩) :
   wpAny (model pg w) A (call (.ref 186) [.ref e, .bytes (wordB chars vs) t1]) Q E ⟨hp, g, d, t, os⟩ := by
  refine wpAny_call (call_fnC (n := 34) (binds := [("self", .ref e), ("source", .bytes (wordB chars vs) t1)]) hA X T fn186 (by rfl) (by rfl) (by rfl) (by decide) (by rfl) ?_)
  intro h₁ t₁ L F hA'
  replace X := X.strike
  have hlast := last_lt hvs hne
  have hpos := List.length_pos_iff.mpr hne
  refine s_cons ?_
  repeat tb_rel
  refine up hA' (x_len_bytes (F.top X) (by rw [wordB_size]; omega) ?_)
  lcg_src
  rw [wordB_size]
  repeat ((fail_if_success (with_reducible refine at_if ?_)); tb_rel)
  refine s_joinR (fun s' => ∃ h', ∃ g' : BG, ∃ t' m B a u o, s' = ⟨h', g', d, t', os⟩ ∧ WkT (strike hp) L [] h' h' m (fun _ => none) [(a, o)] ∧ (∀ h : Heap, h.get? a = some o → FrozOf (mixKind w) h a (padS chars B)) ∧ m "self" = some (.ref e) ∧ m "source" = some (.bytes (wordB chars vs) t1) ∧
    m "mask" = some (.int (Builtin.bitNot (B : Int)) u) ∧ m "padset" = some (.ref a) ∧ B = padBx big vs.length ∧ (B = 15 ∨ B = 60 ∨ B = 3 ∨ B = 48)) ?_ ?_
  · repeat tb_rel
    have hr : vs.length % 4 = 0 ∨ vs.length % 4 = 2 ∨ vs.length % 4 = 3 := by omega
    rcases hr with hr | hr | hr
    · refine br_is false (by simp [hr]) ?_
      repeat tb_rel
      refine br_is false (by simp [hr]) ?_
      repeat tb_rel
      refine br_is true (by simp [hr]) ?_
      repeat tb_rel
      refine e_tup ?_
      repeat tb_rel
      refine tup_q (by simp) ?_
      intro h2 Tp k2 hT nT
      have oT := F.ownNew nT
      replace F := F.kept k2
      repeat tb_rel
      refine Or.inr ⟨_, rfl, ?_⟩
      repeat tb_rel
      have eB : padBx big vs.length = 0 := by unfold padBx; rw [if_neg (by omega), if_neg (by omega)]
      refine hQ _ _ _ _ t1 F.oldG F.T oT.hp ?_
      rw [eB, fix_pz0, fixL_same hne (fix_pz0 _)]
      exact hT
    · refine br_is true (by simp [hr]) ?_
      repeat tb_rel
      refine Assign_Tuple ?_ (by rfl) (by rfl)
      repeat tb_rel
      refine ga_padinfo2 (hA'.less (by omega)) (F.top X) F.T (H.keep F.oldS) C.asc ?_
      intro h' g' t' Tp a u k T' na nT haT hT hz
      have oa := F.ownNew na
      obtain ⟨o, ho, hfz⟩ := hz.obj
      replace F := (F.keptG k T').ownIn ho oa
      refine tasg2 hA'.hd F hT (fun h _ F => ?_) rfl rfl rfl rfl
      repeat tb_rel
      exact Or.inl ⟨rfl, _, _, _, _, padB2 big, a, _, o, rfl, F.mark, hfz, by with_unfolding_all rfl, by with_unfolding_all rfl, by with_unfolding_all rfl, by with_unfolding_all rfl, by unfold padBx; rw [if_pos hr], (padB_in big).1⟩
    · refine br_is false (by simp [hr]) ?_
      repeat tb_rel
      refine br_is true (by simp [hr]) ?_
      repeat tb_rel
      refine Assign_Tuple ?_ (by rfl) (by rfl)
      repeat tb_rel
      refine ga_padinfo3 (hA'.less (by omega)) (F.top X) F.T (H.keep F.oldS) C.asc ?_
      intro h' g' t' Tp a u k T' na nT haT hT hz
      have oa := F.ownNew na
      obtain ⟨o, ho, hfz⟩ := hz.obj
      replace F := (F.keptG k T').ownIn ho oa
      refine tasg2 hA'.hd F hT (fun h _ F => ?_) rfl rfl rfl rfl
      repeat tb_rel
      exact Or.inl ⟨rfl, _, _, _, _, padB3 big, a, _, o, rfl, F.mark, hfz, by with_unfolding_all rfl, by with_unfolding_all rfl, by with_unfolding_all rfl, by with_unfolding_all rfl, by unfold padBx; rw [if_neg (by omega), if_pos hr], (padB_in big).2⟩
  · rintro s' ⟨h, g', t, m, B, a, u, o, rfl, F, hfz, m1, m2, m3, m4, hB, hB4⟩
    rw [← hB] at hQ
    obtain ⟨f1, f2, f3⟩ := fix_bits hB4 hlast
    repeat tb_rel
    refine tl_bm1 (by rw [wordB_size]; omega) (by rw [wordB_size]; omega) ?_ (by with_unfolding_all rfl) (by intro _; with_unfolding_all rfl)
    intro _ _
    rw [wordB_size, wordB_at chars vs (by omega), ← last_at hne]
    repeat tb_rel
    refine in_frozN (k := .inl ((chars.getD (vs.getLastD 0) 0).toNat : Int)) (by exact mix_int w _ _) rfl (hfz _ (F.get (List.mem_cons_self ..))) ?_
    intro _
    rw [pad_int C B _ hlast]
    repeat tb_rel
    cases hpz : pzB B (vs.getLastD 0) with
    | true =>
      refine br_is true rfl ?_
      repeat tb_rel
      refine e_tup ?_
      repeat tb_rel
      refine tup_q (by simp) ?_
      intro h2 Tp k2 hT nT
      have oT := F.ownNew nT
      replace F := F.kept k2
      repeat tb_rel
      refine hQ _ _ _ _ t1 F.oldG F.T oT.hp ?_
      rw [hpz, fixL_same hne hpz]
      exact hT
    | false =>
      refine br_is false rfl ?_
      repeat tb_rel
      refine up hA' (x_isinst_bytes_str (F.top X) ?_)
      lcg_off
      repeat tb_rel
      refine MethodCall_ ?_ (by rfl)
      repeat tb_rel
      refine gm_enc64 (F.top X) (H.keep F.old) ?_
      intro _
      refine callW (id := "bytes.__getitem__") (self := .bytes chars p.tc) ?_ rfl rfl
      repeat tb_rel
      refine MethodCall_ ?_ (by rfl)
      repeat tb_rel
      refine gm_dec64 (F.top X) (H.keep F.old) ?_
      intro _
      refine callD (id := "dict.__getitem__") (self := .ref p.dd) ?_ rfl rfl
      repeat tb_rel
      refine ⟨(H.keep F.old).w2, ?_⟩
      obtain ⟨Fm, hFm, hFv⟩ := (H.keep F.old).map
      obtain ⟨uu, huu⟩ := hFv (vs.getLastD 0) (by rw [C.size]; exact hlast)
      refine dgetN (H.keep F.old).w2 hFm huu ?_
      intro _
      repeat tb_rel
      rw [f1]
      refine ⟨(H.keep F.old).w1, ?_⟩
      refine bgetN (H.keep F.old).w1 (i := fixD B (vs.getLastD 0)) (by rw [C.size]; exact f2) (by rw [C.size]; decide) ?_
      intro _ _
      repeat tb_rel
      refine in_frozN (k := .inl ((chars.getD (fixD B (vs.getLastD 0)) 0).toNat : Int)) (by exact mix_int w _ _) rfl (hfz _ (F.get (List.mem_cons_self ..))) ?_
      intro _
      rw [pad_int C B _ f2, f3]
      repeat tb_rel
      refine ⟨rfl, ?_⟩
      repeat tb_rel
      refine e_list ?_
      repeat tb_rel
      refine list_q (by simp) ?_
      intro h2 l k2 hl nl
      replace F := F.kept k2
      repeat tb_rel
      refine bintsN (ns := [((chars.getD (fixD B (vs.getLastD 0)) 0).toNat : Int)]) ⟨_, hl, rfl, 0, rfl⟩ (.cons _ _ .nil) (fun n hn => by
        obtain rfl := List.mem_singleton.mp hn
        have := (chars.getD (fixD B (vs.getLastD 0)) 0).toNat_lt
        omega) (by simp) hA'.hd ?_
      intro h3 _ _ k3
      replace F := F.kept k3
      repeat tb_rel
      refine e_tup ?_
      repeat tb_rel
      refine tl_B .none (.int _ _) (by rw [wordB_size]; omega) ?_ (by intro _; with_unfolding_all rfl) (by intro _; with_unfolding_all rfl)
      lcg_src
      repeat tb_rel
      have e1 : cutL (wordB chars vs).toList none (some (-1)) = (wordB chars vs).toList.dropLast := by
        have hs : (wordB chars vs).toList.length = vs.length := by rw [Array.length_toList, wordB_size]
        unfold cutL
        rw [List.dropLast_eq_take]
        show ((wordB chars vs).toList.drop 0).take (clipAt (wordB chars vs).toList.length (-1) - 0) = _
        rw [List.drop_zero]
        congr 1
        unfold clipAt
        simp
        omega
      rw [e1]
      refine b_add (by simp [byteArr, wordB_size]; omega) ?_
      intro uu _
      repeat tb_rel
      refine tup_q (by simp) ?_
      intro h2 Tp k2 hT nT
      have oT := F.ownNew nT
      replace F := F.kept k2
      repeat tb_rel
      refine hQ _ _ _ _ uu F.oldG F.T oT.hp ?_
      rw [hpz]
      rw [show (wordB chars vs).toList.dropLast.toArray ++ byteArr [((chars.getD (fixD B (vs.getLastD 0)) 0).toNat : Int)] = wordB chars (fixL B vs) by
        unfold fixL wordB byteArr
        apply Array.ext'
        simp [List.map_dropLast]] at hT
      exact hT
end
end
section
section
variable {w : World} {A : Around} {n : Nat} {E : Value → Shared → Prop} {Q : Value → Shared → Prop} {hp h : Heap} {g : Array GenState} {d : Drawn} {t : Nat} {os : OsState} {p : EngP} {e : Addr} {chars : Array UInt8} {big : Bool} {t1 t2 : Tok} {vs : List Nat}
theorem tup_ix {value slice : PySem.Expr} {T : Addr} {a b : Value} {i : Int} {u : Tok} {j : Nat} {x : Value} (hT : hp.get? T = some (tupObj a b)) (hlo : -(2 ^ 63) ≤ i) (hhi : i < 2 ^ 63) (hj : seqIndex? i 2 = some j) (hx : [a, b][j]? = some x) (q : Q x ⟨hp, g, d, t, os⟩)
    (hs : subscripted slice false (.ref T) (.int i u) = operate [.ref T, .int i u] (getItem (.ref T) (.int i u))) : wpAny (model pg w) A (subscriptTail value slice (.ref T) (.int i u)) Q E ⟨hp, g, d, t, os⟩ :=
  item_tupleT (l := [a, b]) ⟨_, hT, rfl, _, rfl⟩ hlo hhi hj hx q hs
theorem rep_s {g : BG} (hvs : ∀ v ∈ vs, v < 64) (hne : vs ≠ []) (hl : vs.length ≤ 100) (h1 : vs.length % 4 ≠ 1) (hA : AOk A 38) (X : Top w hp) (T : TabOk hp) (H : Eng (strike hp) p e chars big) (C : Chs chars)
   (hQ : ∀ h' (g' : BG) t' u, KeepsG hp h' → TabOk h' → Q (.str (strL (wordL chars (fixL (padBx big vs.length) vs))) u) ⟨h', g', d, t', os⟩) :
   wpAny (model pg w) A (call (.ref 193) [.ref e, .str (strL (wordL chars vs)) t1]) Q E ⟨hp, g, d, t, os⟩ := by
  refine wpAny_call (call_fnC (n := 36) (binds := [("self", .ref e), ("source", .str (strL (wordL chars vs)) t1)]) hA X T fn193 (by rfl) (by rfl) (by rfl) (by decide) (by rfl) ?_)
  intro h₁ t₁ L F hA'
  replace X := X.strike
  refine s_cons ?_
  repeat tb_rel
  refine MethodCall_ ?_ (by rfl)
  repeat tb_rel
  refine gm_fn (f := 186) (F.top X) (H.keep F.old) (by kernel_rfl) (by kernel_rfl) (by kernel_rfl) ?_
  repeat tb_rel
  refine chk_s hvs hne hl h1 (hA'.less (by omega)) (F.top X) F.T (H.keep F.oldS) C ?_
  intro h' g' t' Tp u k T' nT hT
  replace F := F.keptG k T'
  repeat tb_rel
  refine tup_ix hT (by decide) (by decide) (by rfl) (by rfl) ?_ (by with_unfolding_all rfl)
  repeat tb_rel
  exact hQ _ _ _ _ F.oldG F.T
end
end
end
section
section
section
variable {w : World} {A : Around} {E : Value → Shared → Prop} {h : Heap} {g : Array GenState} {d : Drawn} {t : Nat} {os : OsState} {b : Array UInt8} {u : Tok}
theorem wd_type : typeOf (.builtin "bytes.__getitem__") = pure (.type "wrapper_descriptor") := by show builtinType _ = _; rw [builtinType_eq_fast]; kernel_rfl
theorem slot_wd_get : Slot "wrapper_descriptor" "__get__" "wrapper_descriptor.__get__" := .of (owner := "wrapper_descriptor") (n := "__get__") (by rw [typeLookup_type, builtinLookup_eq_fast]; kernel_rfl) (by decide +kernel) (by decide +kernel) (by decide +kernel)
    (by first | exact .inl (by decide +kernel) | exact .inr (by decide +kernel)) (by rw [isSubtype_type]; kernel_rfl)
theorem no_wd_set : typeLookup (.type "wrapper_descriptor") "__set__" = pure none := by rw [typeLookup_type, builtinLookup_eq_fast]; kernel_rfl
theorem no_wd_del : typeLookup (.type "wrapper_descriptor") "__delete__" = pure none := by rw [typeLookup_type, builtinLookup_eq_fast]; kernel_rfl
theorem entry_wd_get : entryFor table "wrapper_descriptor.__get__" = some Builtin.«wrapper_descriptor.__get__» := by first | exact entryFor_of_fast (by kernel_rfl) | exact entryFor_of_tree (by kernel_rfl)
theorem args_wd_get (a b c : Value) : argsOk "wrapper_descriptor.__get__" ⟨[a, b, c], []⟩ := by unfold argsOk; kernel_rfl
theorem gi_get {R : Result → Shared → Prop} {id T : String} {v : Value} (hT : (⟨h, g, d, t, os⟩ : Shared).TypeIs v T) (hT5 : typeOf (.builtin id) = pure (.type "wrapper_descriptor")) (hs : isSubtype (.type T) (.type (".".intercalate (id.cutAt '.').dropLast)) = pure true) (hv : (v == Value.none) = false)
    (hq : ∀ h' q, Keeps h h' → h'.get? q = some (wrapObj id v) → h.get? q = none → R (.ok (.ret (.ref q))) ⟨h', g, d, t, os⟩) :
    codeAny (model pg w) A (.call (.builtin "wrapper_descriptor.__get__") ⟨[.builtin id, v, .type T], []⟩) R ⟨h, g, d, t, os⟩ := by
  refine codeAny_call_builtin slot_wd_get.plain entry_wd_get (slot_wd_get.check _ _ _ _ _ _ _ _ (show Shared.TypeIs ⟨h, g, d, t, os⟩ (.builtin id) "wrapper_descriptor" from hT5) (args_wd_get _ _ _) ?_)
  repeat (any_goals (first | assumption | wp_step))
  simp only [hv, Bool.false_eq_true, if_false]
  repeat (any_goals (first | assumption | wp_step))
  refine hq _ _ (fun b o e => Heap.get?_push_of_some _ e) (Heap.get?_push_size _ rfl) (get_size h)
theorem sub_b_gi : isSubtype (.type "bytes") (.type (".".intercalate ("bytes.__getitem__".cutAt '.').dropLast)) = pure true := by
  rw [show ".".intercalate ("bytes.__getitem__".cutAt '.').dropLast = "bytes" by decide +kernel, isSubtype_type]; kernel_rfl
theorem gi_entry {tk : Tok} {Q : Fin → Shared → Prop} (hq : ∀ h' q, Keeps h h' → h'.get? q = some (wrapObj "bytes.__getitem__" (.bytes b u)) → h.get? q = none → Q (.done (.ret (.ref q))) ⟨h', g, d, t, os⟩) :
    wpAny (model pg w) A (Builtin.«object.__getattribute__» ⟨[.bytes b u, .str "__getitem__" tk], []⟩) Q E ⟨h, g, d, t, os⟩ := by
  have hT : (⟨h, g, d, t, os⟩ : Shared).TypeIs (.bytes b u) "bytes" := rfl
  have hT5 : (⟨h, g, d, t, os⟩ : Shared).TypeIs (.builtin "bytes.__getitem__") "wrapper_descriptor" := wd_type
  have f4 := FB.slot_bytes_getitem.lookup
  have f5 := wd_type
  have f6 := slot_wd_get.lookup
  have f7 := no_wd_set
  have f8 := no_wd_del
  repeat (any_goals (first | assumption | wp_step))
  refine gi_get (by assumption) wd_type sub_b_gi rfl fun h' q k e n => ?_
  exact wpAny_pure (hq h' q k e n)
end
end
section
section
variable {w : World} {A : Around} {E : Value → Shared → Prop} {h : Heap} {g : Array GenState} {d : Drawn} {t : Nat} {os : OsState} {b : Array UInt8} {u : Tok}
theorem gi_call {tk : Tok} {R : Result → Shared → Prop} (hq : ∀ h' q, Keeps h h' → h'.get? q = some (wrapObj "bytes.__getitem__" (.bytes b u)) → h.get? q = none → R (.ok (.ret (.ref q))) ⟨h', g, d, t, os⟩) :
    codeAny (model pg w) A (.call (.builtin "bytes.__getattribute__") ⟨[.bytes b u, .str "__getitem__" tk], []⟩) R ⟨h, g, d, t, os⟩ :=
  codeAny_call_builtin PySem.F.slot_bytes_getattribute.plain PySem.F.entry_bytes_ga (PySem.F.slot_bytes_getattribute.check _ _ _ _ _ _ _ _ (show (⟨h, g, d, t, os⟩ : Shared).TypeIs (.bytes b u) "bytes" from rfl) (PySem.F.args_bytes_getattribute_2 _ _) (gi_entry hq))
theorem gi_by {tk : Tok} {ex : Bool} {Q : Value → Shared → Prop} (hq : ∀ h' q, Keeps h h' → h'.get? q = some (wrapObj "bytes.__getitem__" (.bytes b u)) → h.get? q = none → Q (.ref q) ⟨h', g, d, t, os⟩) : wpAny (model pg w) A (getAttrBy (.bytes b u) (.str "__getitem__" tk) true ex) Q E ⟨h, g, d, t, os⟩ := by
  have hT : (⟨h, g, d, t, os⟩ : Shared).TypeIs (.bytes b u) "bytes" := rfl
  have f2 := PySem.F.slot_bytes_getattribute.lookup
  have f3 := PySem.F.slot_bytes_getattribute.bind (.bytes b u)
  repeat (any_goals (first | assumption | wp_step))
  refine KFB.if_not (by rw [show onTheHeap (Value.builtin "bytes.__getattribute__") = false from rfl, Bool.and_false]) ?_
  repeat (any_goals (first | assumption | wp_step))
  refine gi_call fun h' q k e n => ?_
  repeat (any_goals (first | assumption | wp_step))
  exact hq h' q k e n
theorem ga_gi {ex : Bool} {Q : Value → Shared → Prop} (hq : ∀ h' q t', Keeps h h' → h'.get? q = some (wrapObj "bytes.__getitem__" (.bytes b u)) → h.get? q = none → Q (.ref q) ⟨h', g, d, t', os⟩) : wpAny (model pg w) A (getAttr (.bytes b u) "__getitem__" ex) Q E ⟨h, g, d, t, os⟩ := by
  unfold getAttr
  refine wpAny_bind (wpAny_mkText ?_)
  exact gi_by fun h' q k e n => hq h' q _ k e n
end
end
section
/-- what a generator expression hands out, seen in the heap -/
def GYh (N : Nat) (P : Nat → Value → Heap → Prop) (fp wr : List Addr) : Protocol := fun n s₀ v s₁ kap => ∃ i, i + (n + 1) = N ∧ P i v s₁.heap ∧ Mv wr [] s₀ s₁ ∧ ∀ s'' : Shared, Still fp s₁.heap s''.heap → kap (.send .none) s''
/-- where a generator expression stands that hands out made things -/
structure GSth (w : World) (c : Nat) (I : Addr) (g N : Nat) (P : Nat → Value → Heap → Prop) (fp wr : List Addr) (i : Nat) (s : Shared) : Prop where
  le : i ≤ N
  gen : s.heap.IsGen I g
  two : s.heap.get? 2 = some ⟨.none, none, .dict #[] 0, #[]⟩
  live : ∀ b ∈ wr, ∃ o, s.heap.get? b = some o
  go : ∃ gs s0, s.gens[g]? = some gs ∧ Still fp s0 s.heap ∧ ∀ s'' : Shared, Still fp s0 s''.heap → gs.Goes (model pg w) (AN c) (GRx wr) (GYh N P fp wr) (N - i) (.send .none) s''
section
variable {w : World} {A : Around} {c : Nat} {I : Addr} {g N : Nat} {P : Nat → Value → Heap → Prop} {fp wr : List Addr} {E : Value → Shared → Prop}
theorem genh_frame (hsub : ∀ b ∈ wr, b ∈ fp) (h2 : 2 ∈ fp) (hI : I ∈ fp) {i : Nat} {s s' : Shared} (st : GSth w c I g N P fp wr i s) (hk : ∀ b ∈ fp, ∀ o, s.heap.get? b = some o → s'.heap.get? b = some o) (hj : s'.gens[g]? = s.gens[g]?) : GSth w c I g N P fp wr i s' := by
    refine ⟨st.le, ?_, hk 2 h2 _ st.two, fun b hb => ?_, ?_⟩
    · obtain ⟨o, nm, qn, ho, r⟩ := st.gen; exact ⟨o, nm, qn, hk I hI _ ho, r⟩
    · obtain ⟨o, e⟩ := st.live b hb; exact ⟨o, hk b (hsub b hb) o e⟩
    · obtain ⟨gs, s0, e, q, k⟩ := st.go
      exact ⟨gs, s0, hj.trans e, q.trans hk, k⟩
theorem genh_item (hc : c ≤ 50) (w2 : 2 ∉ wr) (wI : I ∉ wr) (hA : AOk A c) {i : Nat} {s : Shared} {Q : Fin → Shared → Prop} (hi : i < N) (st : GSth w c I g N P fp wr i s) (hQ : ∀ v s', P i v s'.heap → GSth w c I g N P fp wr (i + 1) s' → Mv wr [g] s s' → Q (.done (.ret v)) s') :
    wpAny (model pg w) A (Builtin.«generator.__next__» ⟨[.ref I], []⟩) Q E s := by
    refine upN hA ?_
    obtain ⟨gs, s0, hgs, hs0, hk⟩ := st.go
    have hgo := hk (s.setGen g .running) hs0
    show wpAny _ _ (Builtin.Generator.genWake (.ref I) (.send .none)) _ _ s
    unfold Builtin.Generator.genWake
    refine wpAny_bind (wpAny_holding (wpAny_genNumber st.gen (wpAny_bind (wpAny_genState hgs ?_))))
    have fin : ∀ {α : Type} {k : GenResult → Sem Fin}, (∀ v s₁, Q (.done (.ret v)) s₁ → wpAny (model pg w) (AN c) (k (.yielded v)) Q E s₁) → wpAny (model pg w) (AN c) (.resume g (.send .none) [] k) Q E s := by
      intro _ k hkk
      refine wpAny_resumeQ hgs hgo (fun x s₁ hx => ?_) (fun v s₁ gs' hgb hv => ?_)
      · exact absurd hx.1 (by omega)
      · obtain ⟨i', e, hp, mv, kap⟩ := hv
        obtain rfl : i' = i := by omega
        refine hkk v _ (hQ v _ hp ?_ (mv.setGen hgb))
        refine ⟨by omega, ?_, ?_, ?_, ?_⟩
        · obtain ⟨o, nm, qn, ho, r⟩ := st.gen; exact ⟨o, nm, qn, mv.keep I _ wI ho, r⟩
        · exact mv.keep 2 _ w2 st.two
        · intro b hb; obtain ⟨o, e⟩ := st.live b hb; exact mv.live b o e
        · refine ⟨gs', s₁.heap, ?_, Still.refl, fun s'' hs => ?_⟩
          · have : g < s₁.gens.size := by
              have h1 := mv.gsz
              have h3 := (Array.getElem?_eq_some_iff.mp hgs).1
              rw [h1]
              show g < (s.gens.setIfInBounds g .running).size
              rw [Array.size_setIfInBounds]; exact h3
            exact setGen_self (gs := s₁.gens[g]) (by rw [Array.getElem?_eq_getElem this])
          · have := kap s'' hs
            generalize N - i' = n at this hi e
            cases n with
            | zero => exact this.elim
            | succ m =>
              rw [show N - (i' + 1) = m by omega]
              exact this
    cases gs with
    | running => exact hgo.elim
    | finished => exact hgo.elim
    | _ =>
      refine wpAny_bind (wpAny_roomToWake (noLimit2 st.two) (by show 600 - c < 1000; omega) ?_)
      show wpAny _ _ (.resume g (.send .none) [] _) _ _ s
      exact fin (α := Unit) fun v s₁ q => wpAny_pure q
theorem genh_done (hc : c ≤ 50) (hA : AOk A c) {s : Shared} {Q : Fin → Shared → Prop} (st : GSth w c I g N P fp wr N s) (hE : ∀ e s', IsStop s' e → Mv wr [g] s s' → E (.ref e) s') :
    wpAny (model pg w) A (Builtin.«generator.__next__» ⟨[.ref I], []⟩) Q E s := by
    refine upN hA ?_
    obtain ⟨gs, s0, hgs, hs0, hk⟩ := st.go
    have hgo := hk (s.setGen g .running) hs0
    show wpAny _ _ (Builtin.Generator.genWake (.ref I) (.send .none)) _ _ s
    unfold Builtin.Generator.genWake
    refine wpAny_bind (wpAny_holding (wpAny_genNumber st.gen (wpAny_bind (wpAny_genState hgs ?_))))
    cases gs with
    | running => exact hgo.elim
    | finished => exact hgo.elim
    | _ =>
      refine wpAny_bind (wpAny_roomToWake (noLimit2 st.two) (by show 600 - c < 1000; omega) ?_)
      show wpAny _ _ (.resume g (.send .none) [] _) _ _ s
      refine wpAny_resumeQ hgs hgo (fun x s₁ hx => ?_) (fun v s₁ gs' hgb hv => ?_)
      · obtain ⟨_, rfl, mv⟩ := hx
        show wpAny _ _ (newExc (.type "StopIteration") [] >>= _) _ _ _
        refine wpAny_bind ?_
        simp only [newExc, newTuple]
        refine wpAny_bind (wpAny_newObj_type ?_ (by size_fits))
        refine wpAny_bind (m := firstArgMember _ _) (wpAny_of_eq (a := Value.none) (by first | rfl | (simp only [firstArgMember]; rfl)) ?_)
        refine wpAny_newObj_type ?_ (by size_fits)
        simp only [raiseNew]
        refine wpAny_bind (wpAny_bind (wpAny_handled ?_))
        refine wpAny_throw ?_
        refine hE _ _ ⟨_, Heap.get?_push_size _ rfl, rfl⟩ ((mv.setGen (y := .finished) rfl).trans ?_)
        exact (Mv.of_keeps (s := s₁.setGen g .finished) (fun b o e => Heap.get?_push_of_some _ (Heap.get?_push_of_some _ e)))
      · obtain ⟨i', e, _, _, kap⟩ := hv
        have := kap s₁ Still.refl
        rw [Nat.sub_self] at this
        exact this.elim
theorem genh_next (hc : c ≤ 50) (w2 : 2 ∉ wr) (wI : I ∉ wr) (hA : AOk A (c + 1)) {i : Nat} {s : Shared} {Q : Option Value → Shared → Prop} (hi : i < N) (st : GSth w c I g N P fp wr i s) (hQ : ∀ v s', P i v s'.heap → GSth w c I g N P fp wr (i + 1) s' → Mv wr [g] s s' → Q (some v) s') :
    wpAny (model pg w) A (pyNext (.ref I)) Q E s := by
  unfold pyNext
  exact wpAny_bind (wpAny_attempt (wpAny_callSpecial?_slot st.gen.typeIs slot_gen_next (wpAny_call_entry slot_gen_next st.gen.typeIs entry_gen_next (genh_item hc w2 wI hA.in1 hi st fun v s' p t m => ⟨v, rfl, wpAny_pure (hQ v s' p t m)⟩) (args_gen_next _))))
theorem genh_end (hc : c ≤ 50) (hA : AOk A (c + 1)) {s : Shared} {Q : Option Value → Shared → Prop} (st : GSth w c I g N P fp wr N s) (hQ : ∀ s', Mv wr [g] s s' → Q none s') : wpAny (model pg w) A (pyNext (.ref I)) Q E s := by
  unfold pyNext
  refine wpAny_bind (wpAny_attempt (wpAny_callSpecial?_slot st.gen.typeIs slot_gen_next (wpAny_call_entry slot_gen_next st.gen.typeIs entry_gen_next (genh_done hc hA.in1 st fun e s' x m => ?_) (args_gen_next _))))
  obtain ⟨o, ho, hc⟩ := x
  refine wpAny_bind (wpAny_isInstance (T := "StopIteration") (b := true) ⟨o, ho, hc⟩ isSubtype_stop ?_)
  exact wpAny_pure (hQ _ m)
end
section
variable {w : World} {A : Around} {c cc : Nat} {b : Builtin} {T id : String} {I : Addr} {fp0 wr0 fp wr : List Addr} {n : Nat} {P : Nat → Value → Prop} {P2 : Nat → Value → Value → Prop} {St : Nat → Shared → Prop} {Mid : Nat → Addr → Shared → Prop} {news : List (Addr × Obj)} {cenv : Env} {C : Addr}
theorem seg_glH {elt iter : PySem.Expr} {x y : Str} {px py pt pos : Pos} {kt : Nat} {scope : Scope} (W : ItT w c b T id I fp0 wr0 [] n P2 St Mid) (hA' : AOk (A.over (.compLoop (.GeneratorExp elt [⟨.Tuple [.Name x px, .Name y py] kt pt, iter, [], 0⟩] scope pos) 0 (.ref I) .none cenv) []) (c + cc + 1)) (hloc : cenv.locals = C) (hx : cenv.kindOf x = some .local) (hy : cenv.kindOf y = some .local) (hk : cenv.scope.kind = .function)
    (hco : cenv.scope.isCoroutine = false) (hC0 : C ∉ fp0) (hfp : ∀ a ∈ fp0, a ∈ fp) (hCf : C ∈ fp) (hw0 : ∀ a ∈ wr0, a ∈ wr) (hCw : C ∈ wr) (hn : ∀ p ∈ news, p.1 ∈ fp) (hnw : ∀ p ∈ news, p.1 ∉ wr) (F : Nat → Value → Heap → Prop)
    (hel : ∀ A' i v1 v2 h g d t os m, AOk A' cc → i < n → P2 i v1 v2 → Wk hE C h h m news → m x = some v1 → m y = some v2 → wpAny (model pg w) A' (eval elt cenv) (fun y s' => F i y s'.heap ∧ ∃ h' t', s' = ⟨h', g, d, t', os⟩ ∧ Keeps h h') (fun _ _ => False) ⟨h, g, d, t, os⟩) (hxy : x ≠ y) :
    ∀ (k i : Nat) (s₀ s : Shared) (m : Str → Option Value), n - i = k → i ≤ n → St i s → Mv wr [] s₀ s → Wk hE C s.heap s.heap m news →
      Seg (model pg w) A (GRx wr) (GYh n F fp wr) (n - i) s₀ (.compLoop (.GeneratorExp elt [⟨.Tuple [.Name x px, .Name y py] kt pt, iter, [], 0⟩] scope pos) 0 (.ref I) .none cenv)
        ((model pg w).den (.compLoop (.GeneratorExp elt [⟨.Tuple [.Name x px, .Name y py] kt pt, iter, [], 0⟩] scope pos) 0 (.ref I) .none cenv)) [] s := by
  intro k
  induction k with
  | zero =>
    intro i s₀ s m hk' hi hst hmv F0
    have hin : i = n := by omega
    subst hin
    show Seg _ A _ _ _ s₀ _ ((compTurn (.GeneratorExp elt [⟨.Tuple [.Name x px, .Name y py] kt pt, iter, [], 0⟩] scope pos) 0 (.ref I) .none cenv).onRaise (leaving cenv)) [] s
    rw [compTurn_gen, Sem.onRaise_eq_wrap]
    refine seg_bind_wrap (wpAny_standAt ?_)
    refine seg_bind_wrap (W.py_done (hA'.less (by omega)) hst fun s' mv => ?_)
    exact seg_end (.ok .next) ⟨by omega, rfl, hmv.trans (mv.mono hw0 (fun _ h => h))⟩
  | succ k ih =>
    intro i s₀ s m hk' hi hst hmv F0
    have hlt : i < n := by omega
    show Seg _ A _ _ _ s₀ _ ((compTurn (.GeneratorExp elt [⟨.Tuple [.Name x px, .Name y py] kt pt, iter, [], 0⟩] scope pos) 0 (.ref I) .none cenv).onRaise (leaving cenv)) [] s
    rw [compTurn_gen, Sem.onRaise_eq_wrap]
    refine seg_bind_wrap (wpAny_standAt ?_)
    refine seg_bind_wrap (W.py_item (hA'.less (by omega)) hlt hst fun T' v1 v2 s₁ hPv hT' hTn hmid mv₁ => ?_)
    refine seg_bind_wrap (W.go _ _ _ _ _ _ _ _ _ hmid fun s₂ hst₂ mv₂ => ?_)
    have hTw : T' ∉ wr0 := fun q => by obtain ⟨o, e⟩ := W.live _ _ hst T' q; rw [hTn] at e; cases e
    have hT₂ := mv₂.keep _ _ hTw hT'
    have mv12 := mv₁.trans mv₂
    have F1 : Wk hE C s₂.heap s₂.heap m news := F0.mv mv12 (fun q => hC0 (W.sub _ q)) (fun a _ o e => absurd (Heap.lt_size e) (Nat.not_lt_zero _)) (fun p hp q => hnw p hp (hw0 _ q))
    obtain ⟨h₁, g₁, d₁, t₁, os₁⟩ := s₂
    refine seg_bind_wrap (asg2 (L := C) hA'.hd F1 hT₂ (fun h₂ t₂ F2 => ?_) hloc hk hx hy)
    have hst₃ : St (i + 1) ⟨h₂, g₁, d₁, t₂, os₁⟩ := W.frame _ _ _ hst₂ (fun b hb o e => F2.Z b o (fun q => hC0 (q ▸ hb)) e) (by simp)
    refine seg_bind_wrap ?_
    rw [List.forIn_nil]
    refine wpAny_pure ?_
    simp only [if_true]
    have hy : ∀ v, yieldOut cenv v = yieldValue v := fun v => by simp only [yieldOut, hco, Bool.false_eq_true, if_false]
    simp only [hy]
    rw [Sem.bind_eq_wrap', Sem.bind_eq_wrap', Sem.wrap_wrap, Sem.wrap_wrap]
    refine seg_wrap (wpAny_mono (hel _ i v1 v2 _ _ _ _ _ _ (hA'.less (by omega)) hlt hPv F2.mark (by simp [hxy]) (by simp)) (fun y s₄ h₄ => ?_) fun _ _ e => e.elim)
    obtain ⟨hFy, h₄, t₄, rfl, hk₄⟩ := h₄
    refine seg_at ?_
    rw [show n - i = (n - (i + 1)) + 1 by omega]
    have mv3 : Mv wr [] s₀ ⟨h₄, g₁, d₁, t₄, os₁⟩ := (hmv.trans (mv12.mono hw0 (fun _ h => h))).trans ((F2.toMv (t := t₁) (t' := t₂) hCw).trans (Mv.of_keeps (s := ⟨h₂, g₁, d₁, t₂, os₁⟩) hk₄))
    refine seg_yield rfl rfl rfl ⟨i, by omega, hFy, mv3, fun s'' hal => ?_⟩
    obtain ⟨h5, g5, d5, t5, os5⟩ := s''
    exact seg_again rfl (ih (i + 1) ⟨h5, g5, d5, t5, os5⟩ ⟨h5, g5, d5, t5, os5⟩ _ (by omega) hlt (W.frame _ _ _ hst₃ (fun b hb o e => hal b (hfp b hb) o (hk₄ b o e)) (by simp)) Mv.refl
      ((F2.kept hk₄).still hal hCf hn))
end
end
section
section
variable {w : World} {A : Around} {E : Value → Shared → Prop} {h : Heap} {g : Array GenState} {d : Drawn} {t : Nat} {os : OsState} {I : Addr} {vs : Array Value}
theorem slot_gen_ga : Slot "generator" "__getattribute__" "object.__getattribute__" :=
  .of (owner := "object") (n := "__getattribute__") (by rw [typeLookup_type, builtinLookup_eq_fast]; kernel_rfl) (by decide +kernel) (by decide +kernel) (by decide +kernel)
    (by first | exact .inl (by decide +kernel) | exact .inr (by decide +kernel)) (by rw [isSubtype_type]; kernel_rfl)
theorem gen_no_keys : typeLookup (.type "generator") "keys" = pure none := by rw [typeLookup_type, builtinLookup_eq_fast]; kernel_rfl
theorem gen_no_getattr : typeLookup (.type "generator") "__getattr__" = pure none := by rw [typeLookup_type, builtinLookup_eq_fast]; kernel_rfl
theorem gen_miss {u : Tok} {Q : Fin → Shared → Prop} (hh : A.handled = none) (hg : h.get? I = some ⟨.type "generator", none, .fields vs, #[]⟩) (hE : ∀ h' tk e, Heap.NewAttrErr h h' e (.ref I) "keys" → E (.ref e) ⟨h', g, d, tk, os⟩) :
    wpAny (model pg w) A (Builtin.«object.__getattribute__» ⟨[.ref I, .str "keys" u], []⟩) Q E ⟨h, g, d, t, os⟩ := by
  have hT : (⟨h, g, d, t, os⟩ : Shared).TypeIs (.ref I) "generator" := ⟨_, hg, rfl⟩
  have hmiss := gen_no_keys
  have f5 := gen_no_getattr
  unfold Builtin.«object.__getattribute__»
  repeat (any_goals (first | assumption | wp_step))
  exact wpAny_raiseAttrError hh hE (attrMsg_fits (by decide +kernel) (by rw [sizeLine_eq]; decide))
theorem gen_nokeys {Q : Option Value → Shared → Prop} (hh : A.handled = none) (hg : h.get? I = some ⟨.type "generator", none, .fields vs, #[]⟩) (hQ : ∀ h' t', Keeps h h' → Q none ⟨h', g, d, t', os⟩) :
    wpAny (model pg w) A (getAttr? (.ref I) "keys") Q E ⟨h, g, d, t, os⟩ := by
  have hT : ∀ t, (⟨h, g, d, t, os⟩ : Shared).TypeIs (.ref I) "generator" := fun _ => ⟨_, hg, rfl⟩
  have f1 := sub_AttributeError
  have f3 := slot_gen_ga.lookup
  have f4 := slot_gen_ga.bind (.ref I)
  have f5 := gen_no_getattr
  unfold getAttr? getAttrBy? getAttrBy
  repeat (any_goals (first | assumption | exact hT _ | ((with_reducible show wpAny _ _ (call (Value.builtin "object.__getattribute__") _ _) _ _ _); refine wpAny_call_entry slot_gen_ga (hT _) PySem.F.entry_object_getattribute (gen_miss hh hg fun h' tk e hx' => ?_) (PySem.F.args_object_getattribute_2 _ _)) | wp_step))
  obtain ⟨t', u', he⟩ := hx'.there
  repeat (any_goals (first | assumption | wp_step))
  exact hQ _ _ hx'.keeps
end
end
section
def pairP (key : Nat → Int) : Nat → Value → Heap → Prop := fun i v h => ∃ T u u', v = .ref T ∧ IsPair h T (.int (key i) u) (.int (i : Int) u')
def MapTo (w : World) (h : Heap) (dd : Addr) (key : Nat → Int) (n : Nat) : Prop := ∃ kvs, h.DictOf (intKind pg w) dd kvs ∧ kvs.length = n ∧ ∀ j < n, ∃ u, kvs[j]? = some (key j, .int (j : Int) u)
theorem MapTo.at' {w : World} {h h' : Heap} {dd : Addr} {key : Nat → Int} {n : Nat} (x : MapTo w h dd key n) (k : ∀ o, h.get? dd = some o → h'.get? dd = some o) : MapTo w h' dd key n := by
  obtain ⟨kvs, ⟨o, es, ep, ho, r⟩, hl⟩ := x
  exact ⟨kvs, ⟨o, es, ep, k _ ho, r⟩, hl⟩
theorem MapTo.obj {w : World} {h : Heap} {dd : Addr} {key : Nat → Int} {n : Nat} (x : MapTo w h dd key n) : ∃ o es ep, h.get? dd = some o ∧ o.ExactDict ∧ o.data = .dict es ep := by
  obtain ⟨kvs, ⟨o, es, ep, ho, hx, hd, _⟩, _⟩ := x
  exact ⟨o, es, ep, ho, hx, hd⟩
theorem find_nodup {K V : Type} [DecidableEq K] : ∀ {l : List (K × V)} {j : Nat} {k : K} {v : V}, (l.map (·.1)).Nodup → l[j]? = some (k, v) → (l.find? fun kv => kv.1 = k) = some (k, v)
  | [], j, k, v, _, h => by simp at h
  | (a, b) :: r, 0, k, v, hn, h => by
    simp only [List.getElem?_cons_zero, Option.some.injEq, Prod.mk.injEq] at h
    obtain ⟨rfl, rfl⟩ := h
    simp
  | (a, b) :: r, j + 1, k, v, hn, h => by
    simp only [List.getElem?_cons_succ] at h
    simp only [List.map_cons, List.nodup_cons] at hn
    have hne : a ≠ k := fun e => hn.1 (List.mem_map.mpr ⟨(k, v), List.mem_of_getElem? h, e.symm⟩)
    rw [List.find?_cons_of_neg (by simpa using hne)]
    exact find_nodup hn.2 h
theorem MapTo.intMap {w : World} {h : Heap} {dd : Addr} {key : Nat → Int} {n : Nat} (x : MapTo w h dd key n) : ∃ F, h.IntMap dd F ∧ ∀ j < n, ∃ u, F (key j) = some (.int (j : Int) u) := by
  obtain ⟨kvs, hD, hl, hk⟩ := x
  have hn : (kvs.map (·.1)).Nodup := let ⟨_, _, _, _, _, _, _, _, hn⟩ := hD; hn
  obtain ⟨o, es, ep, ho, hx, hd, hks, hf⟩ := hD.mapOf
  refine ⟨valueAt kvs, ⟨o, es, ep, ho, hx.1, hd, fun e he => ?_, hf⟩, fun j hj => ?_⟩
  · obtain ⟨k, h1, h2⟩ := hks e he
    obtain ⟨t, ht⟩ := Value.isInt_shape h1
    exact ⟨k, t, ht, h2⟩
  · obtain ⟨u, hu⟩ := hk j hj
    exact ⟨u, by unfold valueAt; rw [find_nodup hn hu]; rfl⟩
theorem entry_dul : entryFor table "dict.update.loop" = some Builtin.«dict.update.loop» := by first | exact entryFor_of_fast (by kernel_rfl) | exact entryFor_of_tree (by kernel_rfl)
theorem plain_dul : plainId "dict.update.loop" = true := by decide +kernel
section
variable {w : World} {A : Around} {E : Value → Shared → Prop} {c : Nat} {I dd : Addr} {g N : Nat} {fp wr : List Addr} {key : Nat → Int}
theorem dict_loop {R : Result → Shared → Prop} (hc : c ≤ 50) (hsub : ∀ b ∈ wr, b ∈ fp) (h2 : 2 ∈ fp) (hI : I ∈ fp) (w2 : 2 ∉ wr) (wI : I ∉ wr) (hA : AOk A (c + 2)) (hinj : ∀ i j, i < N → j < N → key i = key j → i = j) (hN : N ≤ 1000) (hdf : dd ∉ fp) :
    ∀ (k i : Nat) (s : Shared), N - i = k → i ≤ N → GSth w c I g N (pairP key) fp wr i s → MapTo w s.heap dd key i →
      (∀ s', Mv (dd :: wr) [g] s s' → MapTo w s'.heap dd key N → R (.ok (.ret .none)) s') →
      codeAny (model pg w) A (.builtin "dict.update.loop" ⟨[.ref dd, .ref I, rawInt (i : Int), .none], []⟩) R s := by
  have hdw : dd ∉ wr := fun q => hdf (hsub _ q)
  intro k
  induction k with
  | zero =>
    intro i s hk hi st hM hR
    obtain rfl : i = N := by omega
    refine codeAny_builtin entry_dul ?_
    rw [Around.under_plainId plain_dul _]
    show wpAny _ A.in1 (pyNext (.ref I) >>= _) _ _ s
    refine wpAny_bind (genh_end hc (AOk.in1 (hA.less (by omega))) st fun s' mv => ?_)
    show wpAny _ A.in1 (Builtin.Dict.addKeywords dd [] >>= _) _ _ s'
    exact wpAny_bind (wpAny_pure (wpAny_pure (hR s' (mv.mono (fun b hb => List.mem_cons_of_mem _ hb) (fun _ h => h)) (hM.at' fun o e => mv.keep dd o hdw e))))
  | succ k ih =>
    intro i s hk hi st hM hR
    have hlt : i < N := by omega
    refine codeAny_builtin entry_dul ?_
    rw [Around.under_plainId plain_dul _]
    show wpAny _ A.in1 (pyNext (.ref I) >>= _) _ _ s
    refine wpAny_bind (genh_next hc w2 wI (AOk.in1 (hA.less (by omega))) hlt st fun v s' p st' mv => ?_)
    obtain ⟨T, u, u', rfl, hT⟩ := p
    have hM' := hM.at' (h' := s'.heap) fun o e => mv.keep dd o hdw e
    obtain ⟨kvs, hD, hL, hf⟩ := hM'
    have hTy : s'.TypeIs (.ref T) "tuple" := ⟨_, hT, rfl⟩
    dsimp only
    refine wpAny_bind (wpAny_holding ?_)
    refine wpAny_bind (wpAny_tryCatch ?_)
    unfold Builtin.Dict.pairItems
    refine wpAny_bind (wpAny_typeOf hTy ?_)
    refine KFB.if_so (by decide) ?_
    refine wpAny_bind (wpAny_seqItems hT rfl ?_)
    refine wpAny_pure ?_
    show wpAny _ _ (holding [.int (key i) u, .int (i : Int) u'] (dictSet dd (.int (key i) u) (.int (i : Int) u'))) _ _ _
    refine wpAny_holding ?_
    have hnew : (kvs.any fun kv => kv.1 = key i) = false := by
      rw [List.any_eq_false]
      intro kv hkv
      obtain ⟨j, hj, e⟩ := List.mem_iff_getElem.mp hkv
      obtain ⟨u, hu⟩ := hf j (by omega)
      rw [List.getElem?_eq_getElem hj, e] at hu
      rw [Option.some.inj hu]
      simp only [decide_eq_true_eq]
      intro e2
      have := hinj j i (by omega) hlt e2
      omega
    refine wpAny_dictSet_pairs (knd := intKind pg w) (intKind_is _ _ _ _) hD (fun h' hD' hsb => ?_) (by rw [sizeLine_eq]; omega)
    have hl : ∃ o, h'.get? dd = some o := let ⟨o, _, _, e, _⟩ := hD'; ⟨o, e⟩
    obtain ⟨od, hod⟩ := hl
    rw [show stored kvs (key i) (.int (i : Int) u') = kvs ++ [(key i, .int (i : Int) u')] by unfold stored; rw [hnew]; rfl] at hD'
    refine wpAny_pure ⟨plainId_quiet plain_dul _, ?_⟩
    rw [show rawInt ((i : Int) + 1) = rawInt ((i + 1 : Nat) : Int) from rfl]
    refine ih (i + 1) _ (by omega) hlt (genh_frame hsub h2 hI st' (fun b hb o e => hsb.extBut b o (fun q => hdf (q ▸ hb)) e) rfl) ⟨_, hD', by simp [hL], fun j hj => ?_⟩ fun s'' mv'' hM'' => ?_
    · by_cases hji : j = i
      · subst hji; exact ⟨u', by rw [List.getElem?_append_right (by omega), hL, Nat.sub_self]; rfl⟩
      · obtain ⟨uu, hu⟩ := hf j (by omega)
        exact ⟨uu, by rw [List.getElem?_append_left (by omega)]; exact hu⟩
    · refine hR s'' ((mv.mono (fun b hb => List.mem_cons_of_mem _ hb) (fun _ h => h)).trans (Mv.trans ?_ mv'')) hM''
      exact (Mv.of_same (s := s') hsb (List.mem_cons_self ..) hod).tok _
end
end
section
section
variable {w : World} {A : Around} {E : Value → Shared → Prop} {c : Nat} {I : Addr} {g N : Nat} {fp wr : List Addr} {key : Nat → Int} {vs : Array Value} {h : Heap} {gs : Array GenState} {d : Drawn} {t : Nat} {os : OsState}
theorem dict_of {Q : Value → Shared → Prop} (hc : c ≤ 50) (hsub : ∀ b ∈ wr, b ∈ fp) (h2 : 2 ∈ fp) (hI : I ∈ fp) (w2 : 2 ∉ wr) (wI : I ∉ wr) (hA : AOk A (c + 6)) (hinj : ∀ i j, i < N → j < N → key i = key j → i = j) (hN : N ≤ 1000)
    (hfp : ∀ b ∈ fp, ∃ o, h.get? b = some o) (hg : h.get? I = some ⟨.type "generator", none, .fields vs, #[]⟩) (st : GSth w c I g N (pairP key) fp wr 0 ⟨h, gs, d, t, os⟩)
    (hQ : ∀ s' dd, h.get? dd = none → Mv wr [g] ⟨h, gs, d, t, os⟩ s' → MapTo w s'.heap dd key N → Q (.ref dd) s') : wpAny (model pg w) A (call (.type "dict") [.ref I]) Q E ⟨h, gs, d, t, os⟩ := by
  refine callType_codes (Q₁ := fun obj s₁ => obj = .ref h.objs.size ∧ s₁ = ⟨h.push { cls := .type "dict", data := .dict #[] }, gs, d, t, os⟩) F.kt_called_dict (F.kt_typeCall_dict_1 _) F.entry_dict_init (kt_code_dict_new _ ⟨rfl, rfl⟩) ?_
  rintro obj s₁ ⟨rfl, rfl⟩
  have hD : (h.push { cls := .type "dict", data := .dict #[] }).DictOf (intKind pg w) h.objs.size [] := Heap.DictOf.new h
  have hs0 := get_size h
  have k0 : Keeps h (h.push { cls := .type "dict", data := .dict #[] }) := fun b o e => Heap.get?_push_of_some _ e
  generalize h.push { cls := .type "dict", data := .dict #[] } = h1 at hD k0 ⊢
  generalize h.objs.size = dd at hD hs0 ⊢
  have hdf : dd ∉ fp := fun q => by obtain ⟨o, e⟩ := hfp _ q; rw [hs0] at e; cases e
  have hTd : (⟨h1, gs, d, t, os⟩ : Shared).TypeIs (.ref dd) "dict" := hD.typeIs
  refine ⟨hTd, F.args_dict_init_2 _ _, ?_⟩
  unfold Builtin.«dict.__init__»
  refine wpAny_bind ?_
  unfold Builtin.Dict.selfAndRest
  refine wpAny_bind (wpAny_notOrdered_dict hTd ?_)
  show wpAny _ _ (pure (dd, [Value.ref I])) _ _ _
  refine wpAny_pure ?_
  show wpAny _ _ (Builtin.Dict.updateFrom "dict.__init__" dd (.ref I) [] .none) _ _ _
  unfold Builtin.Dict.updateFrom
  refine wpAny_bind (wpAny_typeOf (show (⟨h1, gs, d, t, os⟩ : Shared).TypeIs (.ref I) "generator" from ⟨_, k0 _ _ hg, rfl⟩) ?_)
  rw [if_pos (by decide)]
  refine wpAny_bind (gen_nokeys (AOk.hd (AOk.in1 (n := c + 4) (AOk.in1 (hA.less (by omega))))) (k0 _ _ hg) fun hh2 t2 k2 => ?_)
  refine KFB.if_so rfl ?_
  refine wpAny_bind (wpAny_rule ?_)
  have st2 : GSth w c I g N (pairP key) fp wr 0 ⟨hh2, gs, d, t2, os⟩ := genh_frame hsub h2 hI st (fun b _ o e => k2 b o (k0 b o e)) rfl
  refine wpAny_bind (wpAny_pyIter_gen st2.gen ?_)
  refine wpAny_pure ⟨plainId_quiet plain_dul _, ?_⟩
  refine dict_loop hc hsub h2 hI w2 wI (AOk.in1 (hA.less (by omega))) hinj hN hdf N 0 _ rfl (Nat.zero_le _) st2 ?_ fun s' mv hM => ⟨rfl, hQ s' dd hs0 ?_ hM⟩
  · refine ⟨[], ?_, rfl, fun j hj => absurd hj (Nat.not_lt_zero _)⟩
    obtain ⟨o, es, ep, ho, r⟩ := hD
    exact ⟨o, es, ep, k2 _ _ ho, r⟩
  · exact Mv.fresh (h1 := hh2) hs0 (fun b o e => k2 b o (k0 b o e)) (Mv.trans (b := ⟨hh2, gs, d, t2, os⟩) ⟨fun _ _ _ e => e, fun _ o e => ⟨o, e⟩, rfl, fun _ _ => rfl, rfl, rfl, fun x => x⟩ mv)
end
end
section
section
variable {w : World} {A : Around} {E : Value → Shared → Prop} {h : Heap} {g : Array GenState} {d : Drawn} {t : Nat} {os : OsState} {dd : Addr} {es : Array DictEntry} {ep : Nat}
theorem md_type : typeOf (.builtin "dict.__getitem__") = pure (.type "method_descriptor") := by show builtinType _ = _; rw [builtinType_eq_fast]; kernel_rfl
theorem slot_md_get : Slot "method_descriptor" "__get__" "method_descriptor.__get__" := .of (owner := "method_descriptor") (n := "__get__") (by rw [typeLookup_type, builtinLookup_eq_fast]; kernel_rfl) (by decide +kernel) (by decide +kernel) (by decide +kernel)
    (by first | exact .inl (by decide +kernel) | exact .inr (by decide +kernel)) (by rw [isSubtype_type]; kernel_rfl)
theorem no_md_set : typeLookup (.type "method_descriptor") "__set__" = pure none := by rw [typeLookup_type, builtinLookup_eq_fast]; kernel_rfl
theorem no_md_del : typeLookup (.type "method_descriptor") "__delete__" = pure none := by rw [typeLookup_type, builtinLookup_eq_fast]; kernel_rfl
theorem entry_md_get : entryFor table "method_descriptor.__get__" = some Builtin.«method_descriptor.__get__» := by first | exact entryFor_of_fast (by kernel_rfl) | exact entryFor_of_tree (by kernel_rfl)
theorem args_md_get (a b c : Value) : argsOk "method_descriptor.__get__" ⟨[a, b, c], []⟩ := by unfold argsOk; kernel_rfl
theorem toldNot : Manifest.toldItsClass.contains "dict.__getitem__" = false := by decide +kernel
theorem sub_d_gi : isSubtype (.type "dict") (.type (".".intercalate ("dict.__getitem__".cutAt '.').dropLast)) = pure true := by
  rw [show ".".intercalate ("dict.__getitem__".cutAt '.').dropLast = "dict" by decide +kernel, isSubtype_type]; kernel_rfl
theorem gd_get {R : Result → Shared → Prop} (hT : (⟨h, g, d, t, os⟩ : Shared).TypeIs (.ref dd) "dict")
    (hq : ∀ h' q, Keeps h h' → h'.get? q = some (bmObj "dict.__getitem__" (.ref dd)) → h.get? q = none → R (.ok (.ret (.ref q))) ⟨h', g, d, t, os⟩) :
    codeAny (model pg w) A (.call (.builtin "method_descriptor.__get__") ⟨[.builtin "dict.__getitem__", .ref dd, .type "dict"], []⟩) R ⟨h, g, d, t, os⟩ := by
  have hT5 := md_type
  have hs := sub_d_gi
  refine codeAny_call_builtin slot_md_get.plain entry_md_get (slot_md_get.check _ _ _ _ _ _ _ _ (show Shared.TypeIs ⟨h, g, d, t, os⟩ (.builtin "dict.__getitem__") "method_descriptor" from hT5) (args_md_get _ _ _) ?_)
  repeat (any_goals (first | assumption | wp_step))
  simp only [show (Value.ref dd == Value.none) = false from rfl, Bool.false_eq_true, if_false]
  repeat (any_goals (first | assumption | (with_reducible refine KFB.if_not toldNot ?_) | wp_step))
  refine hq _ _ (fun b o e => Heap.get?_push_of_some _ e) (Heap.get?_push_size _ rfl) (get_size h)
theorem gd_entry {tk : Tok} {Q : Fin → Shared → Prop} (ho : h.get? dd = some ⟨.type "dict", none, .dict es ep, #[]⟩) (hq : ∀ h' q, Keeps h h' → h'.get? q = some (bmObj "dict.__getitem__" (.ref dd)) → h.get? q = none → Q (.done (.ret (.ref q))) ⟨h', g, d, t, os⟩) :
    wpAny (model pg w) A (Builtin.«object.__getattribute__» ⟨[.ref dd, .str "__getitem__" tk], []⟩) Q E ⟨h, g, d, t, os⟩ := by
  have hT : (⟨h, g, d, t, os⟩ : Shared).TypeIs (.ref dd) "dict" := ⟨_, ho, rfl⟩
  have hT5 : (⟨h, g, d, t, os⟩ : Shared).TypeIs (.builtin "dict.__getitem__") "method_descriptor" := md_type
  have f4 := slot_dict_getitem.lookup
  have f5 := md_type
  have f6 := slot_md_get.lookup
  have f7 := no_md_set
  have f8 := no_md_del
  repeat (any_goals (first | assumption | wp_step))
  refine gd_get (by assumption) fun h' q k e n => ?_
  exact wpAny_pure (hq h' q k e n)
theorem gd_call {tk : Tok} {R : Result → Shared → Prop} (ho : h.get? dd = some ⟨.type "dict", none, .dict es ep, #[]⟩) (hq : ∀ h' q, Keeps h h' → h'.get? q = some (bmObj "dict.__getitem__" (.ref dd)) → h.get? q = none → R (.ok (.ret (.ref q))) ⟨h', g, d, t, os⟩) :
    codeAny (model pg w) A (.call (.builtin "dict.__getattribute__") ⟨[.ref dd, .str "__getitem__" tk], []⟩) R ⟨h, g, d, t, os⟩ :=
  codeAny_call_builtin F.slot_dict_getattribute.plain am_entry_dict_getattribute (F.slot_dict_getattribute.check _ _ _ _ _ _ _ _ (show (⟨h, g, d, t, os⟩ : Shared).TypeIs (.ref dd) "dict" from ⟨_, ho, rfl⟩) (F.args_dict_getattribute_2 _ _) (gd_entry ho hq))
theorem gd_by {tk : Tok} {ex : Bool} {Q : Value → Shared → Prop} (ho : h.get? dd = some ⟨.type "dict", none, .dict es ep, #[]⟩) (hq : ∀ h' q, Keeps h h' → h'.get? q = some (bmObj "dict.__getitem__" (.ref dd)) → h.get? q = none → Q (.ref q) ⟨h', g, d, t, os⟩) : wpAny (model pg w) A (getAttrBy (.ref dd) (.str "__getitem__" tk) true ex) Q E ⟨h, g, d, t, os⟩ := by
  have hT : (⟨h, g, d, t, os⟩ : Shared).TypeIs (.ref dd) "dict" := ⟨_, ho, rfl⟩
  have f2 := F.slot_dict_getattribute.lookup
  have f3 := F.slot_dict_getattribute.bind (.ref dd)
  repeat (any_goals (first | assumption | wp_step))
  refine KFB.if_not (by rw [show onTheHeap (Value.builtin "dict.__getattribute__") = false from rfl, Bool.and_false]) ?_
  repeat (any_goals (first | assumption | wp_step))
  refine gd_call ho fun h' q k e n => ?_
  repeat (any_goals (first | assumption | wp_step))
  exact hq h' q k e n
theorem ga_gd {ex : Bool} {Q : Value → Shared → Prop} (ho : h.get? dd = some ⟨.type "dict", none, .dict es ep, #[]⟩) (hq : ∀ h' q t', Keeps h h' → h'.get? q = some (bmObj "dict.__getitem__" (.ref dd)) → h.get? q = none → Q (.ref q) ⟨h', g, d, t', os⟩) : wpAny (model pg w) A (getAttr (.ref dd) "__getitem__" ex) Q E ⟨h, g, d, t, os⟩ := by
  unfold getAttr
  refine wpAny_bind (wpAny_mkText ?_)
  exact gd_by ho fun h' q k e n => hq h' q _ k e n
end
end
section
section
variable {w : World} {A : Around} {E : Value → Shared → Prop} {h h₀ hz hp : Heap} {g : Array GenState} {d : Drawn} {t : Nat} {os : OsState} {x dx : Addr} {es : List DictEntry} {n : Nat} {name : Str} {v : Value}
theorem osa_S {tk : Tok} {R : Result → Shared → Prop} {s : Shared} (X : Top w s.heap) (hx : s.heap.get? x = some (instObj 294 dx)) (hd : s.heap.get? dx = some (dictOf es n)) (hp : plainOver (K1 w.params) 294 = true) (ht : takerIn (K1 w.params) 294 name = some none) (hh : (clsIn (K1 w.params) 294).any (·.hasDict) = true)
    (hl : (getL name es).isSome = true) (hz : (putL name (PyData.keyHash w.params name) (.str name s.toks) v es).length ≤ 1000)
    (h : ∀ h', Heap.SameBut dx s.heap h' → h'.get? dx = some (dictOf (putL name (PyData.keyHash w.params name) (.str name s.toks) v es) (putN name es n)) → R (.ok (.ret .none)) { s with heap := h', toks := s.toks + 1 }) :
    codeAny (model pg w) A (.call (.builtin "object.__setattr__") ⟨[.ref x, .str name tk, v], []⟩) R s := by
  have I : InstAt s.heap x (instObj 294 dx) 294 (some (dictOf es n)) := ⟨hx, rfl, rfl, hd⟩
  refine osa_open X I hp ht fun b => ?_
  obtain ⟨cd, hc, hd'⟩ := any_some hh
  have e1 := putName_dict name (PyData.keyHash w.params name) (.str name s.toks) v es n
  have D' : (s.heap.update dx (Obj.putName name (PyData.keyHash w.params name) (.str name s.toks) v)).get? dx = some (dictOf (putL name (PyData.keyHash w.params name) (.str name s.toks) v es) (putN name es n)) := by
    rw [← e1]; exact Heap.get?_update_self _ hd (by rw [e1]; rfl)
  refine wpAny_bind (wpAny_pure (wpAny_bind (wpAny_bind (wpAny_loadPart hx (wpAny_bind ((looks_clsIn X hc).here ?_))))))
  rw [hd']
  refine wpAny_pure (a := some dx) (wpAny_bind (wpAny_pure (wpAny_bind ?_)))
  unfold nsSet
  refine wpAny_bind (wpAny_bind (wpAny_askSetting (wpAny_pure (wpAny_bind (wpAny_mkText (wpAny_bind (wpAny_loadPart hd ?_)))))))
  have c : (!es.toArray.any (·.key.isStr name) && es.toArray.any (·.refKey)) = false := by
    rw [← Array.any_toList, ← Array.any_toList]
    unfold getL at hl
    split at hl
    · rename_i en he
      rw [List.any_eq_true.mpr ⟨en, List.mem_of_find?_eq_some he, List.find?_some he⟩]; rfl
    · split at hl
      · cases hl
      · rename_i z; rw [Bool.not_eq_true] at z; rw [show es.toArray.toList.any (·.refKey) = false from z, Bool.and_false]
  rw [show (dictOf es n).data = .dict es.toArray n from rfl]
  dsimp only
  rw [aRefKeyMayBeTheName_at, c]
  refine wpAny_updatePart hd ?_
  refine wpAny_bind (wpAny_lookBehind D' (pastItsLine_dict (by rw [List.size_toArray, sizeLine_eq]; omega)) ?_)
  exact wpAny_pure (h _ (Heap.SameBut.update ..) D')
theorem set_S {Q : Unit → Shared → Prop} (X : Top w h) (hx : h.get? x = some (instObj 294 dx)) (hd : h.get? dx = some (dictOf es n)) (ht : takerIn (K1 w.params) 294 name = some none)
    (hl : (getL name es).isSome = true) (hz : es.length ≤ 100) (hn : es.any (·.key.isStr name) = false)
    (k : ∀ h' t' u, Heap.SameBut dx h h' → h'.get? dx = some (dictOf (es ++ [⟨PyData.keyHash w.params name, .str name u, v⟩]) (n + 1)) → Q () ⟨h', g, d, t', os⟩) :
    wpAny (model pg w) A (setAttr (.ref x) name v) Q E ⟨h, g, d, t, os⟩ := by
  have hput : ∀ (l : List DictEntry) (a : Int) (b v : Value), l.any (·.key.isStr name) = false → putL name a b v l = l ++ [⟨a, b, v⟩] := by
    intro l
    induction l with
    | nil => intros; rfl
    | cons e r ih =>
      intro a b v hh
      simp only [List.any_cons, Bool.or_eq_false_iff] at hh
      simp only [putL, hh.1, Bool.false_eq_true, if_false, ih _ _ _ hh.2, List.cons_append]
  have hputN : putN name es n = n + 1 := by unfold putN; rw [hn]; rfl
  refine set_plain (s := ⟨h, g, d, t, os⟩) X (⟨hx, rfl, rfl, hd⟩ : InstAt h x (instObj 294 dx) 294 (some (dictOf es n))) (by kernel_rfl) ?_
  refine osa_S (s := ⟨h, g, d, t + 1, os⟩) X hx hd (by kernel_rfl) ht (by kernel_rfl) hl (by rw [hput _ _ _ _ hn]; simp; omega) fun h' hs hd' => ?_
  rw [hput _ _ _ _ hn, hputN] at hd'
  exact k _ _ _ hs hd'
theorem bound_S {f : Addr} {expr : Bool} {Q : Value → Shared → Prop} (X : Top w h) (hx : h.get? x = some (instObj 294 dx)) (hd : h.get? dx = some (dictOf es n)) (hf : findObj (K1 w.params) 294 (some (dictOf es n)) name = some (.bind (.builtin "function.__get__") (.ref f))) (ht : typeIn (K1 w.params) (.ref f) = some (.type "function"))
    (k : ∀ h' t' q, Keeps h h' → h'.get? q = some (methodObj (.ref f) (.ref x)) → h.get? q = none → Q (.ref q) ⟨h', g, d, t', os⟩) :
    wpAny (model pg w) A (getAttr (.ref x) name expr) Q E ⟨h, g, d, t, os⟩ :=
  get_bind (s := ⟨h, g, d, t, os⟩) X (⟨hx, rfl, rfl, hd⟩ : InstAt h x (instObj 294 dx) 294 (some (dictOf es n))) (e_ga _) hf (e_gn _)
    (wpAny_call (fn_get (s := ⟨h, g, d, t + 1, os⟩) X ht (handed_on rfl (k _ _ _ (fun b o e => Heap.get?_push_of_some _ e) (Heap.get?_push_size _ rfl) (get_size h)))))
end
end
end
section
local macro_rules | `(tactic| lcg_off) => `(tactic| (intro $(Lean.mkIdent `h) _ $(Lean.mkIdent `k); (first | replace $(Lean.mkIdent `F) := WkT.kept $(Lean.mkIdent `F) $(Lean.mkIdent `k) | replace $(Lean.mkIdent `F) := Wk.kept $(Lean.mkIdent `F) $(Lean.mkIdent `k)); clear $(Lean.mkIdent `k)))
local macro_rules | `(tactic| lcg_src) => `(tactic| (intro $(Lean.mkIdent `h) _ _ $(Lean.mkIdent `k); (first | replace $(Lean.mkIdent `F) := WkT.kept $(Lean.mkIdent `F) $(Lean.mkIdent `k) | replace $(Lean.mkIdent `F) := Wk.kept $(Lean.mkIdent `F) $(Lean.mkIdent `k)); clear $(Lean.mkIdent `k)))
local macro_rules | `(tactic| x_close) => `(tactic| first
  | exact $(Lean.mkIdent `hk) _ _ Keeps.refl
  | exact $(Lean.mkIdent `hk) _ _ (keeps_of_mem (by assumption))
  | exact $(Lean.mkIdent `hk) _ _ _ Keeps.refl
  | exact $(Lean.mkIdent `hk) _ _ _ (keeps_of_mem (by assumption))
  | (apply $(Lean.mkIdent `hk); assumption)
  | (exact $(Lean.mkIdent `hk) _ _ _ (keeps_of_mem (by assumption)) (X.Mem.nw (by assumption) _ (List.mem_cons_self ..)).1 (X.Mem.nw (by assumption) _ (List.mem_cons_self ..)).2)
)
local macro_rules | `(tactic| tb_rel) => `(tactic| first
  | (with_reducible show wpAny _ _ (eval (Expr.Name _ _) _) _ _ _; first
      | with_reducible refine tL $(Lean.mkIdent `F) (by with_unfolding_all first | rfl | assumption) ?_ (by with_unfolding_all rfl) (by with_unfolding_all rfl) (by with_unfolding_all rfl) (by with_unfolding_all decide)
      | with_reducible refine tC $(Lean.mkIdent `F) (by with_unfolding_all first | rfl | assumption) ?_ (by with_unfolding_all rfl) (by with_unfolding_all rfl) (by with_unfolding_all rfl) (by with_unfolding_all rfl) (by with_unfolding_all decide)
      | with_reducible refine tGl $(Lean.mkIdent `X) $(Lean.mkIdent `F) (by with_unfolding_all rfl) ?_ (by with_unfolding_all rfl) (by with_unfolding_all rfl) (by with_unfolding_all rfl) (by with_unfolding_all rfl) (by with_unfolding_all decide)
      | with_reducible refine wL $(Lean.mkIdent `F) (by with_unfolding_all first | rfl | assumption) ?_ (by with_unfolding_all rfl) (by with_unfolding_all rfl) (by with_unfolding_all rfl) (by with_unfolding_all decide)
      | with_reducible refine wFr $(Lean.mkIdent `F) (by with_reducible assumption) (by with_unfolding_all first | rfl | assumption) ?_ (by with_unfolding_all rfl) (by with_unfolding_all rfl) (by with_unfolding_all rfl) (by with_unfolding_all decide) (by with_unfolding_all decide)
      | with_reducible refine wGl $(Lean.mkIdent `X) $(Lean.mkIdent `F) (by with_unfolding_all rfl) ?_ (by with_unfolding_all rfl) (by with_unfolding_all rfl) (by with_unfolding_all rfl) (by with_unfolding_all rfl) (by with_unfolding_all decide))
  | (with_reducible show wpAny _ _ (eval _ _) _ _ _; first
      | with_reducible refine e_int ?_
      | with_reducible refine e_str ?_
      | with_reducible refine wpAny_BinOp ?_
      | with_reducible refine wpAny_Compare1 ?_
      | with_reducible refine wpAny_UnaryOp ?_
      | with_reducible refine callN ?_
      | with_reducible refine sub_sl ?_
      | with_reducible refine sub_ix ?_
      | with_reducible refine s_ifx ?_
      | with_reducible refine Attribute_name ?_
      | with_reducible refine e_bool ?_
      | with_reducible refine e_none ?_)
  | (with_reducible show wpAny _ _ (execs _ _) _ _ _; first
      | with_reducible refine s_cons ?_
      | with_reducible refine s_nil ?_)
  | (with_reducible show wpAny _ _ (exec _ _) _ _ _; first
      | with_reducible refine wpAny_Assign_Name ?_ (by with_unfolding_all rfl)
      | with_reducible refine s_if ?_
      | with_reducible refine wpAny_Return_some ?_
      | with_reducible refine wpAny_AugAssign_Name ?_
      | with_reducible refine s_for ?_ (by intro _; with_unfolding_all rfl)
      | with_reducible refine wpAny_Assert_holds ?_)
  | (with_reducible show wpAny _ _ (storeName _ _ _) _ _ _; first
      | (with_reducible refine tstL $(Lean.mkIdent `F) ?_ (by with_unfolding_all rfl) (by with_unfolding_all rfl) (by with_unfolding_all rfl); clear $(Lean.mkIdent `F); intro _ _ $(Lean.mkIdent `F))
      | (with_reducible refine tstC $(Lean.mkIdent `F) ?_ (by with_unfolding_all rfl) (by with_unfolding_all rfl) (by with_unfolding_all rfl) (by with_unfolding_all rfl); clear $(Lean.mkIdent `F); intro _ _ $(Lean.mkIdent `F))
      | (with_reducible refine wstL $(Lean.mkIdent `F) ?_ (by with_unfolding_all rfl) (by with_unfolding_all rfl) (by with_unfolding_all rfl); clear $(Lean.mkIdent `F); intro _ _ $(Lean.mkIdent `F)))
  | (with_reducible show wpAny _ _ (loadName _ _) _ _ _; first
      | with_reducible refine tldL $(Lean.mkIdent `F) (by with_unfolding_all first | rfl | assumption) ?_ (by with_unfolding_all rfl) (by with_unfolding_all rfl) (by with_unfolding_all rfl)
      | with_reducible refine tldC $(Lean.mkIdent `F) (by with_unfolding_all first | rfl | assumption) ?_ (by with_unfolding_all rfl) (by with_unfolding_all rfl) (by with_unfolding_all rfl) (by with_unfolding_all rfl)
      | with_reducible refine wldL $(Lean.mkIdent `F) (by with_unfolding_all first | rfl | assumption) ?_ (by with_unfolding_all rfl) (by with_unfolding_all rfl) (by with_unfolding_all rfl))
  | (with_reducible show wpAny _ _ (spliced _) _ _ _; first
      | with_reducible refine wpAny_items_cons ?_ (by with_unfolding_all rfl)
      | with_reducible refine wpAny_items_nil ?_)
  | (with_reducible show wpAny _ _ (callWith _ _ _ _ _) _ _ _; first
      | with_reducible refine callB ?_ (by with_unfolding_all rfl) (by with_unfolding_all rfl)
      | with_reducible refine callT ?_ (by with_unfolding_all rfl) (by with_unfolding_all rfl)
      | with_reducible refine callKn $(Lean.mkIdent `X) (by kernel_rfl) ?_ (by with_unfolding_all rfl) (by with_unfolding_all rfl))
  | (with_reducible show wpAny _ _ (isTrue _ _ _) _ _ _; first
      | with_reducible refine wpAny_isTrue_Compare1 ?_
      | with_reducible refine wpAny_isTrue_Not ?_
      | with_reducible refine wpAny_isTrue_BoolOp ?_
      | with_reducible refine wpAny_isTrue_value ?_ (by with_unfolding_all rfl))
  | (with_reducible show wpAny _ _ (truthy _) _ _ _; first
      | with_reducible refine t_bool ?_
      | with_reducible refine t_int ?_)
  | (with_reducible show wpAny _ _ (compareOp _ _ _) _ _ _; first
      | with_reducible refine i_eq ?_
      | with_reducible refine i_ne ?_
      | with_reducible refine i_lt ?_
      | with_reducible refine i_gt ?_
      | with_reducible refine i_ge ?_
      | with_reducible refine is_nn ?_)
  | (with_reducible show wpAny _ _ (binaryOp _ _ _) _ _ _; first
      | (with_reducible refine n_and63 ?_; intro _ _)
      | (with_reducible refine n_and15 ?_; intro _ _)
      | (with_reducible refine n_and3 ?_; intro _ _)
      | (with_reducible refine n_or ?_; intro _ _)
      | (with_reducible refine n_shr2 ?_; intro _ _)
      | (with_reducible refine n_shr4 ?_; intro _ _)
      | (with_reducible refine n_shr6 ?_; intro _ _)
      | (with_reducible refine n_shl2 (by omega) ?_; intro _ _)
      | (with_reducible refine n_shl4 (by omega) ?_; intro _ _)
      | (with_reducible refine n_shl6 (by omega) ?_; intro _ _)
      | (with_reducible refine i_add ?_; intro _ _)
      | (with_reducible refine i_sub ?_; intro _ _)
      | (with_reducible refine i_and ?_; intro _ _)
      | (with_reducible refine i_or ?_; intro _ _)
      | (with_reducible refine i_xor ?_; intro _ _))
  | (with_reducible show wpAny _ _ (inplaceOp _ _ _) _ _ _; first
      | (with_reducible refine i_iand ?_; intro _ _)
      | (with_reducible refine i_ior ?_; intro _ _)
      | (with_reducible refine i_iadd ?_; intro _ _))
  | (with_reducible show wpAny _ _ (unaryOp _ _) _ _ _; first
      | (with_reducible refine i_neg ?_; intro _ _)
      | (with_reducible refine i_inv ?_; intro _ _))
  | (with_reducible show wpAny _ _ (evalPart _ _) _ _ _; first
      | with_reducible refine part0 ?_
      | with_reducible refine part1 ?_)
  | with_reducible refine then_next ?_
  | with_reducible refine then_ret ?_
  | with_reducible refine br_t ?_
  | with_reducible refine br_f ?_
  | with_reducible refine br_nt ?_
  | with_reducible refine br_nf ?_
  | with_reducible refine And.intro (fun _ => WkT.top $(Lean.mkIdent `F) $(Lean.mkIdent `X)) ?_
  | with_reducible refine And.intro (fun _ => Wk.top $(Lean.mkIdent `F) $(Lean.mkIdent `X)) ?_
  | with_reducible refine retQ ?_
  | with_reducible refine brE_t ?_
  | with_reducible refine brE_f ?_)
section
abbrev dictScope : Scope := { kind := .function, names := [(".0", .local), ("idx", .local), ("value", .local)], isGenerator := true, isCoroutine := false }
def chKey (chars : Array UInt8) : Nat → Int := fun i => ((chars.getD i 0).toNat : Int)
section
variable {w : World} {h' : Heap} {g : Array GenState} {d : Drawn} {t' : Nat} {os : OsState} {env : Env} {Ig C e I : Addr} {code : Value} {b : Builtin} {T id : String} {St0 : Nat → Shared → Prop} {cd : Code} {iter : PySem.Expr} {p1 p2 p3 p4 p5 p6 p7 p8 p9 pp pos : Pos} {k0 k1 : Nat} {nm qn : Value} {m : Str → Option Value} {chars : Array UInt8}
theorem gsth_start {I : Addr} {nm qn : Value} {fp wr : List Addr} {N : Nat} {P : Nat → Value → Heap → Prop} {cd : Code} {t' : Nat} (X : Top w h') (hg : h'.get? I = some ⟨.type "generator", none, .fields #[.int g.size 0, nm, qn], #[]⟩) (hl : ∀ b ∈ wr, ∃ o, h'.get? b = some o)
    (go : ∀ s'' : Shared, Still fp h' s''.heap → Seg (model pg w) (AN 20) (GRx wr) (GYh N P fp wr) N s'' cd ((model pg w).den cd) [] s'') : GSth w 20 I g.size N P fp wr 0 ⟨h', g.push (.fresh cd), d, t', os⟩ :=
  ⟨Nat.zero_le _, ⟨_, _, _, hg, rfl, rfl, rfl⟩, X 2 _ (eq2 w.params), hl, .fresh cd, h', by show (g.push _)[g.size]? = _; simp, Still.refl, fun s'' hs => ⟨rfl, go s'' hs⟩⟩
theorem dict_gst (W0 : It w 1 b T id I [I] [I] [] 64 (fun i v => ∃ c u, chars[i]? = some c ∧ v = .int (c.toNat : Int) u) St0)
    (hcd : cd = Code.compStart (.GeneratorExp (.Tuple [.Name "value" p1, .Name "idx" p2] k0 p6) [⟨.Tuple [.Name "idx" p3, .Name "value" p4] k1 p5, iter, [], 0⟩] dictScope pos) 0 (.ref e) .none (genEnv dictScope [] C code 0 env))
    (X : Top w h') (hg : h'.get? Ig = some ⟨.type "generator", none, .fields #[.int g.size 0, nm, qn], #[]⟩) (FC : Wk hE C h' h' m []) (he : h'.get? e = some (enumObj I))
    (hI : ∀ s : Shared, Still [2, Ig, C, e, I] h' s.heap → St0 0 s) (hl : ∃ o, h'.get? I = some o)
    (eC : e ≠ C) (IC : I ≠ C) (eI : e ≠ I) :
    GSth w 20 Ig g.size 64 (pairP (chKey chars)) [2, Ig, C, e, I] [C, e, I] 0 ⟨h', g.push (.fresh cd), d, t', os⟩ := by
  subst hcd
  have We := It.enum (e := e) W0 (by simpa using eI)
  refine gsth_start X hg ?_ fun s'' hs => seg_gs (seg_glH (C := C) (c := 2) (cc := 6) (news := []) We (over_gx (by omega)) rfl (by rfl) (by rfl) (by rfl) (by rfl) ?_ ?_ ?_ ?_ ?_ ?_ ?_ (pairP (chKey chars)) ?_ (by decide) _ 0 s'' s'' m rfl (by omega) ?_ Mv.refl ?_) ?_
  · intro b hb
    simp only [List.mem_cons, List.not_mem_nil, or_false] at hb
    rcases hb with rfl | rfl | rfl
    · exact FC.liveL
    · exact ⟨_, he⟩
    · exact hl
  · simp [eC.symm, IC.symm]
  · simp
  · simp
  · simp
  · simp
  · simp
  · simp
  · intro A' i v1 v2 h g d t os m hA hi hP F hm1 hm2
    obtain ⟨⟨u, rfl⟩, c, u', hc, rfl⟩ := hP
    repeat tb_rel
    refine e_tup ?_
    repeat tb_rel
    refine tup_q (by simp) ?_
    intro h2 Tp k2 hT nT
    refine ⟨⟨Tp, u', u, rfl, ?_⟩, _, _, rfl, k2⟩
    unfold chKey
    rw [show (chars.getD i 0).toNat = c.toNat by simp [Array.getD_eq_getD_getElem?, hc]]
    exact hT
  · obtain ⟨h2, g2, d2, t2, os2⟩ := s''
    exact ⟨⟨_, hs e (by simp) _ he⟩, hI ⟨h2, g2, d2, t2, os2⟩ hs⟩
  · obtain ⟨h2, g2, d2, t2, os2⟩ := s''
    exact FC.still hs (by simp) (by simp)
  · intro A E Q hq
    exact wpAny_pyIter_enum (hs e (by simp) _ he) hq
end
end
end
section
section
theorem sub_b_set : isSubtype (.type "bytes") (.type "set") = pure false := by rw [isSubtype_type]; kernel_rfl
theorem sub_b_froz : isSubtype (.type "bytes") (.type "frozenset") = pure false := by rw [isSubtype_type]; kernel_rfl
section
variable {w : World} {A : Around} {E : Value → Shared → Prop} {Q : Value → Shared → Prop} {h h₀ h₀' h' hz hp : Heap} {g : Array GenState} {d : Drawn} {t : Nat} {os : OsState} {m cm : Str → Option Value} {news news' : List (Addr × Obj)} {L : Addr} {cs : List (Str × Addr)} {chars : Array UInt8} {D : Addr} {o o' : Obj} {u : Tok}
/-- a set of 64 different octets, of which only the size is asked -/
theorem set_chars (C : Chs chars) (hA : AOk A 10) (k : ∀ h' t' a, hp.get? a = none → Keeps hp h' → (∀ (A : Around) (E : Value → Shared → Prop) (Q : Value → Shared → Prop) t'', (∀ u t, Q (.int 64 u) ⟨h', g, d, t, os⟩) → wpAny (model pg w) A (call (.builtin "len") [.ref a]) Q E ⟨h', g, d, t'', os⟩) → Q (.ref a) ⟨h', g, d, t', os⟩) :
    wpAny (model pg w) A (call (.type "set") [.bytes chars u]) Q E ⟨hp, g, d, t, os⟩ := by
  refine set_of_val (knd := intKind pg w) (c := 1) (b := Builtin.«bytes_iterator.__next__») (T := "bytes_iterator") (id := "bytes_iterator.__next__") (To := "bytes") (n := 64) (P := fun i v => ∃ c u, chars[i]? = some c ∧ v = .int (c.toNat : Int) u) (hA.less (by omega)) sub_b_set sub_b_froz (by decide) (fun s => rfl) ?_ (chKey chars) ?_ (by omega) ?_
  · intro A E s Q q
    obtain ⟨h, g, d, t, os⟩ := s
    refine pyIterB fun h' I k hI nI => ?_
    exact q h' I [I] [I] _ k nI (by intro b hb; rw [List.mem_singleton] at hb; subst hb; exact nI) (It.bytes I chars u 64 C.size) ⟨_, hI, rfl, rfl⟩
  · rintro i v hi ⟨c, u, hc, rfl⟩
    refine ⟨?_, rfl⟩
    unfold chKey
    rw [show (chars.getD i 0).toNat = c.toNat by simp [Array.getD_eq_getD_getElem?, hc]]
    exact intKind_is _ _ _ _
  · intro h' t' a na kp hs
    refine k h' t' a na kp fun A E Q t'' q => ?_
    obtain ⟨m, hm, hs⟩ := hs
    have e : m = 64 := setof_size hs hm ((List.range 64).map (chKey chars)) (by
      rw [List.nodup_iff_pairwise_ne, List.pairwise_map]
      refine List.Pairwise.imp_of_mem ?_ List.nodup_range
      intro i j hi hj ne e
      refine ne (C.inj i j (List.mem_range.mp hi) (List.mem_range.mp hj) ?_)
      unfold chKey at e; omega) (by simp) (by
      intro k hk
      obtain ⟨i, hi, rfl⟩ := List.mem_map.mp hk
      unfold met
      simp only [Bool.false_or, List.any_eq_true]
      exact ⟨i, hi, by simp⟩)
    subst e
    obtain ⟨o, es, ep, tt, ho, hex, hd, hel, hmem, hb, hf, hz⟩ := hs
    refine call_len_set ho hex hd hf (by rw [hz]; decide) ?_
    rw [hz]
    exact q _ _
theorem WkT.base (F : WkT h₀ L cs hz h m cm []) (k : Keeps h₀' h₀) (hs : h₀'.objs.size ≤ h₀.objs.size) : WkT h₀' L cs hz h m cm [] :=
  ⟨⟨F.F.ns, fun b o e => F.F.keep b o (k b o e), Nat.le_trans hs F.F.above⟩, fun _ q => (by cases q), F.Z, F.C, F.D, F.T, fun b hb => by
    cases q : h₀'.get? b with
    | none => rfl
    | some o => rw [← F.S b hb, k _ _ q], F.LT, F.CT⟩
theorem WkT.upd (F : WkT h₀ L cs hz h m cm news) (q : (D, o) ∈ news) (hs : Heap.SameBut D h h') (hd : h'.get? D = some o') (hn : ∀ p ∈ news', p ∈ news ∧ p.1 ≠ D) : WkT h₀ L cs h' h' m cm ((D, o') :: news') := by
  have own := F.own q
  refine ⟨⟨F.F.ns.sameBut hs (Ne.symm own.2.2.1), fun b o e => hs.extBut _ _ (fun z => by rw [z, own.1] at e; cases e) (F.F.keep b o e), F.F.above⟩, fun p hp => ?_, fun _ _ _ _ e => e, ⟨fun n c e => ?_, F.C.apart, F.C.above⟩, F.D, F.T.keeps (fun b q o e => hs.extBut _ _ (fun z => own.2.1 (z ▸ q)) e), F.S, F.LT, F.CT⟩
  · rcases List.mem_cons.mp hp with rfl | hp
    · exact ⟨hd, own⟩
    · exact ⟨hs.extBut _ _ (hn p hp).2 (F.N p (hn p hp).1).1, (F.N p (hn p hp).1).2⟩
  · exact (F.C.cell n c e).sameBut hs (fun z => own.2.2.2 n (z ▸ mem_of_lookup e))
theorem strike_sub {h : Heap} : Keeps (strike h) h := fun b o e => (strike_of e).2
theorem strike_mono (k : Keeps h h') : Keeps (strike h) (strike h') := KeepsG.ofK k
theorem WkT.add3 {a : Addr} {oa : Obj} {x y : Addr × Obj} (F : WkT h₀ L cs hz h m cm (x :: y :: news)) (k : Keeps h h') (e : h'.get? a = some oa) (n : h.get? a = none) : WkT h₀ L cs hz h' m cm (x :: y :: (a, oa) :: news) :=
  (F.add k e n).fewer fun p q => by
    simp only [List.mem_cons] at q ⊢
    rcases q with q | q | q | q
    · exact .inr (.inl q)
    · exact .inr (.inr (.inl q))
    · exact .inl q
    · exact .inr (.inr (.inr q))
theorem WkT.own3 {a : Addr} {oa : Obj} {x y : Addr × Obj} (F : WkT h₀ L cs hz h m cm (x :: y :: news)) (e : h.get? a = some oa) (w : Own h₀ L cs a) : WkT h₀ L cs hz h m cm (x :: y :: (a, oa) :: news) :=
  (F.ownIn e w).fewer fun p q => by
    simp only [List.mem_cons] at q ⊢
    rcases q with q | q | q | q
    · exact .inr (.inl q)
    · exact .inr (.inr (.inl q))
    · exact .inl q
    · exact .inr (.inr (.inr q))
theorem WkT.ne {a b : Addr} {o : Obj} {h' : Heap} (F : WkT h₀ L cs hz h m cm news) (q : (b, o) ∈ news) (n : h.get? a = none) : a ≠ b := fun x => by
  subst x
  have := F.get q
  rw [n] at this
  exact nomatch this
theorem WkT.sget {a : Addr} {o : Obj} (F : WkT h₀ L cs hz h m cm news) (q : (a, o) ∈ news) : (strike h).get? a = some o := (strike_in (tab_grow (F.own q).2.1)).trans (F.get q)
theorem set_w {e : Addr} {name : Str} {v : Value} {es : List DictEntry} {n : Nat} {Q : Unit → Shared → Prop} (X : Top w h₀) (F : WkT h₀ L cs hz h m cm ((D, dictOf es n) :: (e, instObj 294 D) :: news)) (hDe : e ≠ D) (hnw : ∀ p ∈ news, p.1 ≠ D) (ht : takerIn (K1 w.params) 294 name = some none)
    (hl : (getL name es).isSome = true) (hz : es.length ≤ 100) (hn : es.any (·.key.isStr name) = false)
    (k : ∀ h' t' u, WkT h₀ L cs h' h' m cm ((D, dictOf (es ++ [⟨PyData.keyHash w.params name, .str name u, v⟩]) (n + 1)) :: (e, instObj 294 D) :: news) → Q () ⟨h', g, d, t', os⟩) :
    wpAny (model pg w) A (setAttr (.ref e) name v) Q E ⟨h, g, d, t, os⟩ :=
  set_S (F.top X) (F.get (List.mem_cons_of_mem _ (List.mem_cons_self ..))) (F.get (List.mem_cons_self ..)) ht hl hz hn fun h' t' u hs hd => k h' t' u (F.upd (List.mem_cons_self ..) hs hd fun p q => by
    rcases List.mem_cons.mp q with rfl | q
    · exact ⟨List.mem_cons_of_mem _ (List.mem_cons_self ..), hDe⟩
    · exact ⟨List.mem_cons_of_mem _ (List.mem_cons_of_mem _ q), hnw p q⟩)
theorem bound_w {e f : Addr} {name : Str} {es : List DictEntry} {n : Nat} {expr : Bool} (X : Top w h₀) (F : WkT h₀ L cs hz h m cm ((D, dictOf es n) :: (e, instObj 294 D) :: news)) (hf : findObj (K1 w.params) 294 (some (dictOf es n)) name = some (.bind (.builtin "function.__get__") (.ref f))) (ht : typeIn (K1 w.params) (.ref f) = some (.type "function"))
    (k : ∀ h' t' q, q ≠ D → WkT h₀ L cs hz h' m cm ((D, dictOf es n) :: (e, instObj 294 D) :: (q, methodObj (.ref f) (.ref e)) :: news) → Q (.ref q) ⟨h', g, d, t', os⟩) :
    wpAny (model pg w) A (getAttr (.ref e) name expr) Q E ⟨h, g, d, t, os⟩ :=
  bound_S (F.top X) (F.get (List.mem_cons_of_mem _ (List.mem_cons_self ..))) (F.get (List.mem_cons_self ..)) hf ht fun h' t' q kp hq nq => k h' t' q (fun x => by have := F.get (List.mem_cons_self ..); rw [x, this] at nq; cases nq) (F.add3 kp hq nq)
end
end
end
section
local macro_rules | `(tactic| lcg_off) => `(tactic| (intro $(Lean.mkIdent `h) _ $(Lean.mkIdent `k); (first | replace $(Lean.mkIdent `F) := WkT.kept $(Lean.mkIdent `F) $(Lean.mkIdent `k) | replace $(Lean.mkIdent `F) := Wk.kept $(Lean.mkIdent `F) $(Lean.mkIdent `k)); clear $(Lean.mkIdent `k)))
local macro_rules | `(tactic| lcg_src) => `(tactic| (intro $(Lean.mkIdent `h) _ _ $(Lean.mkIdent `k); (first | replace $(Lean.mkIdent `F) := WkT.kept $(Lean.mkIdent `F) $(Lean.mkIdent `k) | replace $(Lean.mkIdent `F) := Wk.kept $(Lean.mkIdent `F) $(Lean.mkIdent `k)); clear $(Lean.mkIdent `k)))
local macro_rules | `(tactic| x_close) => `(tactic| first
  | exact $(Lean.mkIdent `hk) _ _ Keeps.refl
  | exact $(Lean.mkIdent `hk) _ _ (keeps_of_mem (by assumption))
  | exact $(Lean.mkIdent `hk) _ _ _ Keeps.refl
  | exact $(Lean.mkIdent `hk) _ _ _ (keeps_of_mem (by assumption))
  | (apply $(Lean.mkIdent `hk); assumption)
  | (exact $(Lean.mkIdent `hk) _ _ _ (keeps_of_mem (by assumption)) (X.Mem.nw (by assumption) _ (List.mem_cons_self ..)).1 (X.Mem.nw (by assumption) _ (List.mem_cons_self ..)).2)
)
local macro_rules | `(tactic| tb_rel) => `(tactic| first
  | (with_reducible show wpAny _ _ (eval (Expr.Name _ _) _) _ _ _; first
      | with_reducible refine tL $(Lean.mkIdent `F) (by with_unfolding_all first | rfl | assumption) ?_ (by with_unfolding_all rfl) (by with_unfolding_all rfl) (by with_unfolding_all rfl) (by with_unfolding_all decide)
      | with_reducible refine tC $(Lean.mkIdent `F) (by with_unfolding_all first | rfl | assumption) ?_ (by with_unfolding_all rfl) (by with_unfolding_all rfl) (by with_unfolding_all rfl) (by with_unfolding_all rfl) (by with_unfolding_all decide)
      | with_reducible refine tGl $(Lean.mkIdent `X) $(Lean.mkIdent `F) (by with_unfolding_all rfl) ?_ (by with_unfolding_all rfl) (by with_unfolding_all rfl) (by with_unfolding_all rfl) (by with_unfolding_all rfl) (by with_unfolding_all decide)
      | with_reducible refine wL $(Lean.mkIdent `F) (by with_unfolding_all first | rfl | assumption) ?_ (by with_unfolding_all rfl) (by with_unfolding_all rfl) (by with_unfolding_all rfl) (by with_unfolding_all decide)
      | with_reducible refine wFr $(Lean.mkIdent `F) (by with_reducible assumption) (by with_unfolding_all first | rfl | assumption) ?_ (by with_unfolding_all rfl) (by with_unfolding_all rfl) (by with_unfolding_all rfl) (by with_unfolding_all decide) (by with_unfolding_all decide)
      | with_reducible refine wGl $(Lean.mkIdent `X) $(Lean.mkIdent `F) (by with_unfolding_all rfl) ?_ (by with_unfolding_all rfl) (by with_unfolding_all rfl) (by with_unfolding_all rfl) (by with_unfolding_all rfl) (by with_unfolding_all decide))
  | (with_reducible show wpAny _ _ (eval _ _) _ _ _; first
      | with_reducible refine e_int ?_
      | with_reducible refine e_str ?_
      | with_reducible refine wpAny_BinOp ?_
      | with_reducible refine wpAny_Compare1 ?_
      | with_reducible refine wpAny_UnaryOp ?_
      | with_reducible refine callN ?_
      | with_reducible refine sub_sl ?_
      | with_reducible refine sub_ix ?_
      | with_reducible refine s_ifx ?_
      | with_reducible refine Attribute_name ?_
      | with_reducible refine e_bool ?_
      | with_reducible refine e_none ?_)
  | (with_reducible show wpAny _ _ (execs _ _) _ _ _; first
      | with_reducible refine s_cons ?_
      | with_reducible refine s_nil ?_)
  | (with_reducible show wpAny _ _ (exec _ _) _ _ _; first
      | with_reducible refine wpAny_Assign_Name ?_ (by with_unfolding_all rfl)
      | with_reducible refine s_if ?_
      | with_reducible refine wpAny_Return_some ?_
      | with_reducible refine wpAny_AugAssign_Name ?_
      | with_reducible refine s_for ?_ (by intro _; with_unfolding_all rfl)
      | with_reducible refine wpAny_Assert_holds ?_)
  | (with_reducible show wpAny _ _ (storeName _ _ _) _ _ _; first
      | (with_reducible refine tstL $(Lean.mkIdent `F) ?_ (by with_unfolding_all rfl) (by with_unfolding_all rfl) (by with_unfolding_all rfl); clear $(Lean.mkIdent `F); intro _ _ $(Lean.mkIdent `F))
      | (with_reducible refine tstC $(Lean.mkIdent `F) ?_ (by with_unfolding_all rfl) (by with_unfolding_all rfl) (by with_unfolding_all rfl) (by with_unfolding_all rfl); clear $(Lean.mkIdent `F); intro _ _ $(Lean.mkIdent `F))
      | (with_reducible refine wstL $(Lean.mkIdent `F) ?_ (by with_unfolding_all rfl) (by with_unfolding_all rfl) (by with_unfolding_all rfl); clear $(Lean.mkIdent `F); intro _ _ $(Lean.mkIdent `F)))
  | (with_reducible show wpAny _ _ (loadName _ _) _ _ _; first
      | with_reducible refine tldL $(Lean.mkIdent `F) (by with_unfolding_all first | rfl | assumption) ?_ (by with_unfolding_all rfl) (by with_unfolding_all rfl) (by with_unfolding_all rfl)
      | with_reducible refine tldC $(Lean.mkIdent `F) (by with_unfolding_all first | rfl | assumption) ?_ (by with_unfolding_all rfl) (by with_unfolding_all rfl) (by with_unfolding_all rfl) (by with_unfolding_all rfl)
      | with_reducible refine wldL $(Lean.mkIdent `F) (by with_unfolding_all first | rfl | assumption) ?_ (by with_unfolding_all rfl) (by with_unfolding_all rfl) (by with_unfolding_all rfl))
  | (with_reducible show wpAny _ _ (spliced _) _ _ _; first
      | with_reducible refine wpAny_items_cons ?_ (by with_unfolding_all rfl)
      | with_reducible refine wpAny_items_nil ?_)
  | (with_reducible show wpAny _ _ (callWith _ _ _ _ _) _ _ _; first
      | with_reducible refine callB ?_ (by with_unfolding_all rfl) (by with_unfolding_all rfl)
      | with_reducible refine callT ?_ (by with_unfolding_all rfl) (by with_unfolding_all rfl)
      | with_reducible refine callKn $(Lean.mkIdent `X) (by kernel_rfl) ?_ (by with_unfolding_all rfl) (by with_unfolding_all rfl))
  | (with_reducible show wpAny _ _ (isTrue _ _ _) _ _ _; first
      | with_reducible refine wpAny_isTrue_Compare1 ?_
      | with_reducible refine wpAny_isTrue_Not ?_
      | with_reducible refine wpAny_isTrue_BoolOp ?_
      | with_reducible refine wpAny_isTrue_value ?_ (by with_unfolding_all rfl))
  | (with_reducible show wpAny _ _ (truthy _) _ _ _; first
      | with_reducible refine t_bool ?_
      | with_reducible refine t_int ?_)
  | (with_reducible show wpAny _ _ (compareOp _ _ _) _ _ _; first
      | with_reducible refine i_eq ?_
      | with_reducible refine i_ne ?_
      | with_reducible refine i_lt ?_
      | with_reducible refine i_gt ?_
      | with_reducible refine i_ge ?_
      | with_reducible refine is_nn ?_)
  | (with_reducible show wpAny _ _ (binaryOp _ _ _) _ _ _; first
      | (with_reducible refine n_and63 ?_; intro _ _)
      | (with_reducible refine n_and15 ?_; intro _ _)
      | (with_reducible refine n_and3 ?_; intro _ _)
      | (with_reducible refine n_or ?_; intro _ _)
      | (with_reducible refine n_shr2 ?_; intro _ _)
      | (with_reducible refine n_shr4 ?_; intro _ _)
      | (with_reducible refine n_shr6 ?_; intro _ _)
      | (with_reducible refine n_shl2 (by omega) ?_; intro _ _)
      | (with_reducible refine n_shl4 (by omega) ?_; intro _ _)
      | (with_reducible refine n_shl6 (by omega) ?_; intro _ _)
      | (with_reducible refine i_add ?_; intro _ _)
      | (with_reducible refine i_sub ?_; intro _ _)
      | (with_reducible refine i_and ?_; intro _ _)
      | (with_reducible refine i_or ?_; intro _ _)
      | (with_reducible refine i_xor ?_; intro _ _))
  | (with_reducible show wpAny _ _ (inplaceOp _ _ _) _ _ _; first
      | (with_reducible refine i_iand ?_; intro _ _)
      | (with_reducible refine i_ior ?_; intro _ _)
      | (with_reducible refine i_iadd ?_; intro _ _))
  | (with_reducible show wpAny _ _ (unaryOp _ _) _ _ _; first
      | (with_reducible refine i_neg ?_; intro _ _)
      | (with_reducible refine i_inv ?_; intro _ _))
  | (with_reducible show wpAny _ _ (evalPart _ _) _ _ _; first
      | with_reducible refine part0 ?_
      | with_reducible refine part1 ?_)
  | with_reducible refine then_next ?_
  | with_reducible refine then_ret ?_
  | with_reducible refine br_t ?_
  | with_reducible refine br_f ?_
  | with_reducible refine br_nt ?_
  | with_reducible refine br_nf ?_
  | with_reducible refine And.intro (fun _ => WkT.top $(Lean.mkIdent `F) $(Lean.mkIdent `X)) ?_
  | with_reducible refine And.intro (fun _ => Wk.top $(Lean.mkIdent `F) $(Lean.mkIdent `X)) ?_
  | with_reducible refine retQ ?_
  | with_reducible refine brE_t ?_
  | with_reducible refine brE_f ?_)
section
section
variable {w : World} {A : Around} {n : Nat} {E : Value → Shared → Prop} {Q : Value → Shared → Prop} {hp h h2 : Heap} {g : Array GenState} {d : Drawn} {t : Nat} {os : OsState} {e D : Addr} {chars : Array UInt8} {big : Bool} {t1 t2 : Tok} {v : Value}
theorem bytes_str (chars : Array UInt8) : bytesOf (strOf chars) = chars := by
  unfold bytesOf strOf
  rw [Array.map_map]
  have : ((fun x => UInt8.ofNat x) ∘ fun (x : UInt8) => x.toNat) = id := by funext x; simp
  rw [show ((fun x : Nat => x.toUInt8) ∘ fun (x : UInt8) => x.toNat) = id from this, Array.map_id]
theorem call_fnD {w : World} {A : Around} {n : Nat} {E : Value → Shared → Prop} {hp : Heap} {g : Array GenState} {d : Drawn} {t : Nat} {os : OsState} {Q : Value → Shared → Prop} {f : Addr} {fd : FuncData} {body : List Stmt} {vals : List Value} {binds : List (Str × Value)} (hA : AOk A (n + 2)) (X : Top w hp) (T : TabOk hp) (FA : FnAt f fd body)
    (hbind : BindsTo ⟨hp, g, d, t, os⟩ fd ⟨vals, []⟩ binds) (hcell : ∀ x ∈ fd.scope.names, x.2 ≠ .cell) (hgen : fd.scope.isGenerator = false) (hloc : ∀ x ∈ binds, fd.scope.names.lookup x.1 = some .local)
    (k : ∀ h₁ t₁ L, WkT (strike hp) L [] h₁ h₁ (fun x => binds.reverse.lookup x) (fun _ => none) [] → AOk (A.deeper (envX fd.qualname fd.scope L f fd.code [])) n →
      wpAny (model pg w) (A.deeper (envX fd.qualname fd.scope L f fd.code [])) (execs body (envX fd.qualname fd.scope L f fd.code [])) (RetQ Q) (fun _ _ => False) ⟨h₁, g, d, t₁, os⟩) :
    codeAny (model pg w) A (.call (.ref f) ⟨vals, []⟩) (CodeQ Q E) ⟨hp, g, d, t, os⟩ := by
  refine codeAny_call_def (binds := binds) hA.room (X f _ (FA.at' w.params)) rfl (noLimit X) (codeRec_of X (FA.code w.params)) FA.body hbind hcell hloc ?_ FA.nco hgen FA.kind
  intro h₀ hns hk
  rw [FA.env]
  have hlt : ∀ b ∈ tabs, b < hp.objs.size := fun b q => let ⟨o, e⟩ := T.live b q; Heap.lt_size e
  refine wpAny_mono (k h₀ _ hp.objs.size ⟨⟨hns, fun b o e => hk b o (strike_of e).2, by rw [strike_size]; exact Nat.le_refl _⟩, fun _ q => (by cases q), fun _ _ _ _ e => e, ⟨fun _ _ e => (by cases e), (by first | exact List.Pairwise.nil | exact fun _ _ e => (by cases e) | simp), fun _ _ q => (by cases q)⟩, List.Pairwise.nil, T.keeps (fun b _ o e => hk b o e), fun b q => strike_out q, fun q => Nat.lt_irrefl _ (hlt _ q), fun _ _ q => (by cases q)⟩ ((hA.less (by omega)).deeper _)) (fun fl s' q => q) (fun _ _ q => q.elim)
theorem d99 (P : Params) : (K1 P).lookup 99 = some ⟨.type "tuple", none, .seq #[.bool false] 0, #[]⟩ := by kernel_rfl
theorem gm_encode {x : Str} {M : Model} {pl : Sem Bool} {Q : Value × List Value → Shared → Prop} {s : Shared} (k : Q (.builtin "str.encode", [.str x t1]) s) : wpAny M A (getMethod (.str x t1) "encode" pl) Q E s :=
  GM.of (.str x t1) (typeIs_str _ x t1) F.slot_str_encode F.type_str_encode GM.noRef k
end
end
end
section
section
/-- an element that a comprehension has made: a plain value, or a fresh object -/
def ElAt (El : Nat → Value → Option Obj → Prop) (i : Nat) (y : Value) (bad : List Addr) (h h' : Heap) : Prop := ∃ o, El i y o ∧ ∀ ob, o = some ob → ∃ T, y = .ref T ∧ T ∉ bad ∧ h.get? T = none ∧ h'.get? T = some ob
section
variable {w : World} {A : Around} {h : Heap} {g : Array GenState} {d : Drawn} {t : Nat} {os : OsState} {R : Result → Shared → Prop} {s : Shared}
theorem lc_turns {elt target iter : PySem.Expr} {scope : Scope} {pos : Pos} {it acc : Value} {env : Env} (I : Nat → Shared → Prop)
    (turn : ∀ n s, I n s → wpAny (model pg w) A (pyNext it) (fun r s₁ => match r with
      | none => R (.ok .next) s₁
      | some v => wpAny (model pg w) A (letOwnedTupleGo target it v) (fun _ s₀ => wpAny (model pg w) A (assign target env v) (fun _ s₂ => wpAny (model pg w) A (eval elt env) (fun x s₃ =>
          wpAny (model pg w) A (call (.builtin "list.append") [acc, x]) (fun _ s₄ => ∃ m, m < n ∧ I m s₄) (fun _ _ => False) s₃)
          (fun _ _ => False) s₂) (fun _ _ => False) s₀) (fun _ _ => False) s₁) (fun _ _ => False) s)
    (n : Nat) (h : I n s) :
    codeAny (model pg w) A (.compLoop (.ListComp elt [⟨target, iter, [], 0⟩] scope pos) 0 it acc env) R s := by
  refine codeAny_loop rfl I (fun n s hI => ?_) n h
  show wpAny _ _ ((compTurn (.ListComp elt [⟨target, iter, [], 0⟩] scope pos) 0 it acc env).onRaise (fun x => do noteFrame x env; theTreesLotGoes x)) _ _ s
  refine wpAny_noted ?_
  rw [compTurn_list1]
  refine wpAny_bind (wpAny_standAt (wpAny_bind (wpAny_mono (turn n s hI) (fun r s₁ h₁ => ?_) fun _ _ h' => h'.elim)))
  cases r with
  | none => exact wpAny_pure h₁
  | some v =>
    refine wpAny_bind (wpAny_mono h₁ (fun _ s₀ h₀ => ?_) fun _ _ h' => h'.elim)
    exact wpAny_bind (wpAny_mono h₀ (fun _ s₂ h₂ => wpAny_bind (wpAny_bind (wpAny_mono h₂ (fun x s₃ h₃ => wpAny_bind (wpAny_mono h₃
      (fun _ s₄ h₄ => wpAny_pure (wpAny_pure ⟨rfl, h₄⟩)) fun _ _ h' => h'.elim)) fun _ _ h' => h'.elim))) fun _ _ h' => h'.elim)
theorem lc_gen {elt target iter : PySem.Expr} {scope : Scope} {pos : Pos} {it : Value} {env : Env} {C D : Addr} {n : Nat} {wr : List Addr} {St : Nat → Shared → Prop} (El : Nat → Value → Option Obj → Prop) {m0 : Str → Option Value}
    (hn : n ≤ 100000) (hDC : D ≠ C) (hDw : D ∉ wr) (hCw : C ∉ wr)
    (hframe : ∀ i s s', St i s → (∀ b, b ≠ D → ∀ o, s.heap.get? b = some o → s'.heap.get? b = some o) → s'.gens = s.gens → St i s')
    (hlive : ∀ i s, St i s → ∀ b ∈ wr, ∃ o, s.heap.get? b = some o)
    (hturn : ∀ i h1 t1 m1, i < n → St i ⟨h1, g, d, t1, os⟩ → h1.Ns C m1 → (∀ b o, b ∉ wr → b ≠ C → b ≠ D → h.get? b = some o → h1.get? b = some o) →
      wpAny (model pg w) A (pyNext it) (fun r s₁ => ∃ v, r = some v ∧ wpAny (model pg w) A (letOwnedTupleGo target it v) (fun _ s₀ => wpAny (model pg w) A (assign target env v) (fun _ s₂ => wpAny (model pg w) A (eval elt env) (fun y s₃ =>
          ∃ h2 t2 m2, s₃ = ⟨h2, g, d, t2, os⟩ ∧ St (i + 1) s₃ ∧ h2.Ns C m2 ∧ (∀ b o, b ∉ wr → b ≠ C → h1.get? b = some o → h2.get? b = some o) ∧ ElAt El i y [] h1 h2)
          (fun _ _ => False) s₂) (fun _ _ => False) s₀) (fun _ _ => False) s₁) (fun _ _ => False) ⟨h1, g, d, t1, os⟩)
    (hdone : ∀ h1 t1, St n ⟨h1, g, d, t1, os⟩ → wpAny (model pg w) A (pyNext it) (fun r s₁ => r = none ∧ Mv wr [] ⟨h1, g, d, t1, os⟩ s₁) (fun _ _ => False) ⟨h1, g, d, t1, os⟩)
    (hst : St 0 ⟨h, g, d, t, os⟩) (hns : h.Ns C m0) (hacc : h.PlainList D #[])
    (hR : ∀ h' t' m' ys, h'.Ns C m' → h'.PlainList D ys → ys.size = n → (∀ b o, b ∉ wr → b ≠ C → b ≠ D → h.get? b = some o → h'.get? b = some o) → (∀ i < n, ElAt El i (ys.getD i .none) (D :: C :: wr) h h') → R (.ok .next) ⟨h', g, d, t', os⟩) :
    codeAny (model pg w) A (.compLoop (.ListComp elt [⟨target, iter, [], 0⟩] scope pos) 0 it (.ref D) env) R ⟨h, g, d, t, os⟩ := by
  refine lc_turns (fun k s => ∃ i h1 t1 m1 ys, k = n - i ∧ i ≤ n ∧ s = ⟨h1, g, d, t1, os⟩ ∧ St i ⟨h1, g, d, t1, os⟩ ∧ h1.Ns C m1 ∧ h1.PlainList D ys ∧ ys.size = i ∧ (∀ b o, b ∉ wr → b ≠ C → b ≠ D → h.get? b = some o → h1.get? b = some o) ∧ (∀ j < i, ElAt El j (ys.getD j .none) (D :: C :: wr) h h1)) ?_ n
    ⟨0, h, t, m0, #[], rfl, Nat.zero_le _, rfl, hst, hns, hacc, rfl, fun _ _ _ _ _ e => e, fun j hj => absurd hj (Nat.not_lt_zero _)⟩
  rintro k s ⟨i, h1, t1, m1, ys, rfl, hi, rfl, hst, hns, hacc, hys, hkp, hel⟩
  rcases Nat.lt_or_eq_of_le hi with hlt | rfl
  · refine wpAny_mono (hturn i h1 t1 m1 hlt hst hns hkp) (fun r s₁ h₁ => ?_) fun _ _ e => e
    obtain ⟨v, rfl, h₁⟩ := h₁
    refine wpAny_mono h₁ (fun _ s₀ h₀ => wpAny_mono h₀ (fun _ s₂ h₂ => wpAny_mono h₂ (fun y s₃ h₃ => ?_) fun _ _ e => e) fun _ _ e => e) fun _ _ e => e
    obtain ⟨h2, t2, m2, rfl, st2, hns2, k2, o, hEl, hob⟩ := h₃
    have acc2 := hacc.at (h' := h2) fun o e => k2 D o hDw hDC e
    obtain ⟨lD, hlD⟩ := hacc
    refine wpAny_list_append_plain (s := ⟨h2, g, d, t2, os⟩) acc2 (fun h3 acc3 sb => ?_) (by rw [sizeLine_eq]; omega)
    refine ⟨n - (i + 1), by omega, i + 1, h3, t2, m2, ys.push y, rfl, hlt, rfl, hframe _ _ _ st2 (fun b hb o e => sb.extBut b o hb e) rfl, hns2.sameBut sb (Ne.symm hDC), acc3, by rw [Array.size_push, hys], fun b o b1 b2 b3 e => sb.extBut b o b3 (k2 b o b1 b2 (hkp b o b1 b2 b3 e)), fun j hj => ?_⟩
    have hb : ∀ b ∈ D :: C :: wr, ∃ o, h1.get? b = some o := by
      intro b hb
      rcases List.mem_cons.mp hb with rfl | hb
      · exact ⟨_, hlD⟩
      · rcases List.mem_cons.mp hb with rfl | hb
        · obtain ⟨o, _, _, e, _⟩ := hns; exact ⟨o, e⟩
        · exact hlive _ _ hst b hb
    rcases Nat.lt_or_eq_of_le (Nat.le_of_lt_succ hj) with hj | rfl
    · obtain ⟨o', hE', hob'⟩ := hel j hj
      refine ⟨o', ?_, fun ob e => ?_⟩
      · rw [show (ys.push y).getD j .none = ys.getD j .none by simp [Array.getD, Array.getElem_push, hys, hj, Nat.lt_succ_of_lt hj]]; exact hE'
      · obtain ⟨T, e1, nb, nT, hT⟩ := hob' ob e
        refine ⟨T, by rw [← e1]; simp [Array.getD, Array.getElem_push, hys, hj, Nat.lt_succ_of_lt hj], nb, nT, ?_⟩
        have q1 : T ≠ D := fun x => nb (by simp [x])
        have q2 : T ≠ C := fun x => nb (by simp [x])
        have q3 : T ∉ wr := fun x => nb (by simp [x])
        exact sb.extBut T _ q1 (k2 T _ q3 q2 hT)
    · refine ⟨o, by rw [show (ys.push y).getD j .none = y by simp [Array.getD, ← hys]]; exact hEl, fun ob e => ?_⟩
      obtain ⟨T, rfl, _, nT, hT⟩ := hob ob e
      have nb : T ∉ D :: C :: wr := fun q => by obtain ⟨o, e⟩ := hb T q; rw [nT] at e; cases e
      have q1 : T ≠ D := fun x => nb (by simp [x])
      have q2 : T ≠ C := fun x => nb (by simp [x])
      have q3 : T ∉ wr := fun x => nb (by simp [x])
      refine ⟨T, by simp [Array.getD, ← hys], nb, ?_, sb.extBut T _ q1 hT⟩
      cases q : h.get? T with
      | none => rfl
      | some o => rw [hkp T o q3 q2 q1 q] at nT; cases nT
  · refine wpAny_mono (hdone h1 t1 hst) (fun r s₁ h₁ => ?_) fun _ _ e => e
    obtain ⟨rfl, mv⟩ := h₁
    obtain ⟨h', t', rfl⟩ := mv.shaped
    refine hR h' t' m1 ys (hns.at' fun o e => mv.keep _ o hCw e) (hacc.at fun o e => mv.keep _ o hDw e) hys (fun b o b1 b2 b3 e => mv.keep b o b1 (hkp b o b1 b2 b3 e)) fun j hj => ?_
    obtain ⟨o', hE', hob'⟩ := hel j hj
    refine ⟨o', hE', fun ob e => ?_⟩
    obtain ⟨T, e1, nb, nT, hT⟩ := hob' ob e
    exact ⟨T, e1, nb, nT, mv.keep T _ (fun x => nb (by simp [x])) hT⟩
end
end
section
section
variable {w : World} {A : Around} {E : Value → Shared → Prop} {h h' h₀ hz : Heap} {g : Array GenState} {d : Drawn} {t : Nat} {os : OsState} {m cm : Str → Option Value} {news nw : List (Addr × Obj)} {L : Addr} {cs cl : List (Str × Addr)} {elt target iter : PySem.Expr} {scope : Scope} {pos : Pos} {env : Env} {I : Addr} {n c : Nat} {fp wr : List Addr} {St : Nat → Shared → Prop}
theorem WkT.ext {bad : List Addr} (F : WkT h₀ L cs hz h m cm news) (v : ∀ b o, b ∉ bad → h.get? b = some o → h'.get? b = some o) (hw : ∀ a ∈ bad, Own h₀ L cs a) (hn : ∀ p ∈ news, p.1 ∉ bad) : WkT h₀ L cs h' h' m cm news :=
  ⟨⟨F.F.ns.at' (fun o e => v _ o (fun q => (hw _ q).2.2.1 rfl) e), fun b o e => v b o (fun q => by rw [(hw b q).1] at e; cases e) (F.F.keep b o e), F.F.above⟩, fun p q => ⟨v _ _ (hn p q) (F.N p q).1, (F.N p q).2⟩, fun _ _ _ _ e => e,
    ⟨fun n c e => let ⟨o, ho, hd⟩ := F.C.cell n c e; ⟨o, v c o (fun q => (hw c q).2.2.2 n (mem_of_lookup e)) ho, hd⟩, F.C.apart, F.C.above⟩, F.D, F.T.keeps (fun b q o e => v b o (fun r => (hw b r).2.1 q) e), F.S, F.LT, F.CT⟩
theorem ElAt.mono {El : Nat → Value → Option Obj → Prop} {i : Nat} {y : Value} {bad bad' : List Addr} {h h1 h2 : Heap} (x : ElAt El i y bad h h1) (hb : ∀ b ∈ bad', b ∈ bad) (k : ∀ b o, b ∉ bad → h1.get? b = some o → h2.get? b = some o) : ElAt El i y bad' h h2 :=
  let ⟨o, e, q⟩ := x; ⟨o, e, fun ob z => let ⟨T, a, b, c, d⟩ := q ob z; ⟨T, a, fun r => b (hb _ r), c, k _ _ b d⟩⟩
def LcQ (w : World) (A : Around) (E : Value → Shared → Prop) (env : Env) (scope : Scope) (cl : List (Str × Addr)) (elt target iter : PySem.Expr) (pos : Pos) (use : Option (Value → Sem Unit)) (Q : Value → Shared → Prop) (it : Value) (s₂ : Shared) : Prop :=
  wpAny (model pg w) A (newList []) (fun acc s₃ => wpAny (model pg w) A (newFunctionEnv scope env.globals cl [] env.qual none .none (some env)) (fun cenv s₄ =>
      codeAny (model pg w) A (.compStart (.ListComp elt [⟨target, iter, [], 0⟩] scope pos) 0 it acc { cenv with scope := relabel scope env }) (compPost (model pg w) A E use Q acc cenv.locals) s₄) E s₃) E s₂
theorem lc_core (El : Nat → Value → Option Obj → Prop) (RR : Value → Addr → Result → Shared → Prop) (hn : n ≤ 100000) (hcell : ∀ y ∈ scope.names, y.2 ≠ .cell) (hkind : scope.kind = .function) (hsub : ∀ b ∈ wr, b ∈ fp) (hfp : ∀ b ∈ fp, ∃ o, h.get? b = some o)
    (hself : ∀ (A : Around) (E : Value → Shared → Prop) (Q : Value → Shared → Prop) s, St 0 s → Q (.ref I) s → wpAny (model pg w) A (pyIter (.ref I)) Q E s)
    (hfr : ∀ i s s', St i s → (∀ b ∈ fp, ∀ o, s.heap.get? b = some o → s'.heap.get? b = some o) → s'.gens = s.gens → St i s')
    (hlive : ∀ i s, St i s → ∀ b ∈ wr, ∃ o, s.heap.get? b = some o)
    (hturn : ∀ C i h1 t1 m1, h.objs.size ≤ C → C ∉ wr → C ∉ fp → i < n → St i ⟨h1, g, d, t1, os⟩ → h1.Ns C m1 → (∀ b o, b ∉ wr → h.get? b = some o → h1.get? b = some o) →
      wpAny (model pg w) A (pyNext (.ref I)) (fun r s₁ => ∃ v, r = some v ∧ wpAny (model pg w) A (letOwnedTupleGo target (.ref I) v) (fun _ s₀ => wpAny (model pg w) A (assign target (compEnvC scope cl C env) v) (fun _ s₂ => wpAny (model pg w) A (eval elt (compEnvC scope cl C env)) (fun y s₃ =>
          ∃ h2 t2 m2, s₃ = ⟨h2, g, d, t2, os⟩ ∧ St (i + 1) s₃ ∧ h2.Ns C m2 ∧ (∀ b o, b ∉ wr → b ≠ C → h1.get? b = some o → h2.get? b = some o) ∧ ElAt El i y [] h1 h2)
          (fun _ _ => False) s₂) (fun _ _ => False) s₀) (fun _ _ => False) s₁) (fun _ _ => False) ⟨h1, g, d, t1, os⟩)
    (hdone : ∀ h1 t1, St n ⟨h1, g, d, t1, os⟩ → wpAny (model pg w) A (pyNext (.ref I)) (fun r s₁ => r = none ∧ Mv wr [] ⟨h1, g, d, t1, os⟩ s₁) (fun _ _ => False) ⟨h1, g, d, t1, os⟩)
    (hst : St 0 ⟨h, g, d, t, os⟩)
    (hRR : ∀ D C h' t' m' ys, h.get? D = none → h.get? C = none → D ≠ C → h'.Ns C m' → h'.PlainList D ys → ys.size = n → (∀ b o, b ∉ wr → h.get? b = some o → h'.get? b = some o) → (∀ i < n, ElAt El i (ys.getD i .none) (D :: C :: wr) h h') → RR (.ref D) C (.ok .next) ⟨h', g, d, t', os⟩) :
    wpAny (model pg w) A (newList []) (fun acc s₃ => wpAny (model pg w) A (newFunctionEnv scope env.globals cl [] env.qual none .none (some env)) (fun cenv s₄ =>
      codeAny (model pg w) A (.compStart (.ListComp elt [⟨target, iter, [], 0⟩] scope pos) 0 (.ref I) acc { cenv with scope := relabel scope env }) (RR acc cenv.locals) s₄) E s₃) E ⟨h, g, d, t, os⟩ := by
  refine wpAny_newObj_type (wpAny_newFunctionEnv hcell (by intro y hy; simp at hy) (fun h₁ hns₁ hsb₁ => ?_) hkind)
  dsimp only at hns₁ hsb₁ ⊢
  generalize hH2 : h.push { cls := .type "list", dict := none, data := .seq ([] : List Value).toArray } = H2 at hns₁ hsb₁ ⊢
  have hC : H2.objs.size = h.objs.size + 1 := by rw [← hH2, Heap.size_push]
  have hDC : h.objs.size ≠ H2.objs.size := by rw [hC]; exact Nat.ne_of_lt (Nat.lt_succ_self _)
  have hCle : h.objs.size ≤ H2.objs.size := by rw [hC]; exact Nat.le_succ _
  have below : ∀ b, b < h.objs.size → b ≠ H2.objs.size ∧ b ≠ h.objs.size := fun b hb => ⟨by rw [hC]; exact Nat.ne_of_lt (Nat.lt_succ_of_lt hb), Nat.ne_of_lt hb⟩
  have hlt : ∀ b ∈ fp, b < h.objs.size := fun b hb => let ⟨o, e⟩ := hfp b hb; Heap.lt_size e
  have hDf : h.objs.size ∉ fp := fun hm => Nat.lt_irrefl _ (hlt _ hm)
  have hCf : H2.objs.size ∉ fp := fun hm => by have := hlt _ hm; rw [hC] at this; exact Nat.lt_irrefl _ (Nat.lt_of_succ_lt this)
  have old : ∀ b o, h.get? b = some o → h₁.get? b = some o := fun b o e => hsb₁.extBut b o (below b (Heap.lt_size e)).1 (Heap.get?_push_of_some _ (hH2 ▸ Heap.get?_push_of_some _ e))
  have hacc : h₁.PlainList h.objs.size #[] := ⟨_, hsb₁.extBut _ _ hDC (Heap.get?_push_of_some _ (hH2 ▸ Heap.get?_push_size _ rfl))⟩
  have fresh : ∀ a, h.objs.size ≤ a → h.get? a = none := fun a ha => by
    cases e : h.get? a with
    | none => rfl
    | some o' => exact absurd (Heap.lt_size e) (Nat.not_lt.mpr ha)
  have nD := fresh _ (Nat.le_refl _)
  have nC := fresh _ hCle
  have hst₁ : ∀ t₁, St 0 ⟨h₁, g, d, t₁, os⟩ := fun t₁ => hfr _ ⟨h, g, d, t, os⟩ _ hst (fun b _ o e => old b o e) rfl
  have loop : ∀ s₃ : Shared, s₃ = ⟨h₁, g, d, t + ([] : List (Str × Value)).length, os⟩ →
      codeAny (model pg w) A (.compLoop (.ListComp elt [⟨target, iter, [], 0⟩] scope pos) 0 (.ref I) (.ref h.objs.size) (compEnvC scope cl H2.objs.size env))
        (RR (.ref h.objs.size) H2.objs.size) s₃ := by
    rintro s₃ rfl
    refine lc_gen (C := H2.objs.size) (wr := wr) (St := St) El hn hDC (fun q => hDf (hsub _ q)) (fun q => hCf (hsub _ q)) (fun i s s' a b c => hfr i s s' a (fun x hx o e => b x (fun z => hDf (z ▸ hx)) o e) c) hlive
      (fun i h1 t1 m1 hi hs hm hk => hturn _ i h1 t1 m1 hCle (fun q => hCf (hsub _ q)) hCf hi hs hm fun b o hb e => hk b o hb (below b (Heap.lt_size e)).1 (below b (Heap.lt_size e)).2 (old b o e)) hdone (hst₁ _) hns₁ hacc fun h' t' m' ys hm hl hsz hk hel => ?_
    refine hRR _ _ h' t' m' ys nD nC hDC hm hl hsz (fun b o hb e => hk b o hb (below b (Heap.lt_size e)).1 (below b (Heap.lt_size e)).2 (old b o e)) fun i hi => ?_
    obtain ⟨o, e, q⟩ := hel i hi
    refine ⟨o, e, fun ob z => ?_⟩
    obtain ⟨T, e1, nb, nT, hT⟩ := q ob z
    refine ⟨T, e1, nb, ?_, hT⟩
    cases e2 : h.get? T with
    | none => rfl
    | some o2 => rw [old _ _ e2] at nT; cases nT
  exact codeAny_compStart_list (loop _ rfl) (hself _ _ _ _ (hst₁ _) (loop _ rfl))
end
end
section
section
variable {w : World} {A : Around} {E : Value → Shared → Prop} {h h' h₀ hz : Heap} {g : Array GenState} {d : Drawn} {t : Nat} {os : OsState} {m cm : Str → Option Value} {news nw : List (Addr × Obj)} {L : Addr} {cs cl : List (Str × Addr)} {elt target iter : PySem.Expr} {scope : Scope} {pos : Pos} {env : Env} {I : Addr} {n c : Nat} {fp wr : List Addr} {b : Builtin} {T id : String} {P : Nat → Value → Prop} {P2 : Nat → Value → Value → Prop} {St : Nat → Shared → Prop} {Mid : Nat → Addr → Shared → Prop}
/-- what the rules for list comprehensions ask of a source -/
structure LcSrc (w : World) (A : Around) (I : Addr) (fp wr : List Addr) (n : Nat) (St : Nat → Shared → Prop) (cl : List (Str × Addr)) (elt target : PySem.Expr) (scope : Scope) (env : Env) (g : Array GenState) (d : Drawn) (os : OsState) (h₀ h : Heap) (nw : List (Addr × Obj)) (El : Nat → Value → Option Obj → Prop) : Prop where
  sub : ∀ b ∈ wr, b ∈ fp
  self : ∀ (A : Around) (E : Value → Shared → Prop) (Q : Value → Shared → Prop) s, St 0 s → Q (.ref I) s → wpAny (model pg w) A (pyIter (.ref I)) Q E s
  fr : ∀ i s s', St i s → (∀ b ∈ fp, ∀ o, s.heap.get? b = some o → s'.heap.get? b = some o) → s'.gens = s.gens → St i s'
  live : ∀ i s, St i s → ∀ b ∈ wr, ∃ o, s.heap.get? b = some o
  turn : ∀ C i h1 t1 m1, h₀.objs.size ≤ C → C ∉ wr → C ∉ fp → i < n → St i ⟨h1, g, d, t1, os⟩ → h1.Ns C m1 → (∀ b o, b ∉ wr → h₀.get? b = some o → h1.get? b = some o) → (∀ p ∈ nw, h1.get? p.1 = some p.2 ∧ p.1 ≠ C) →
      wpAny (model pg w) A (pyNext (.ref I)) (fun r s₁ => ∃ v, r = some v ∧ wpAny (model pg w) A (letOwnedTupleGo target (.ref I) v) (fun _ s₀ => wpAny (model pg w) A (assign target (compEnvC scope cl C env) v) (fun _ s₂ => wpAny (model pg w) A (eval elt (compEnvC scope cl C env)) (fun y s₃ =>
          ∃ h2 t2 m2, s₃ = ⟨h2, g, d, t2, os⟩ ∧ St (i + 1) s₃ ∧ h2.Ns C m2 ∧ (∀ b o, b ∉ wr → b ≠ C → h1.get? b = some o → h2.get? b = some o) ∧ ElAt El i y [] h1 h2)
          (fun _ _ => False) s₂) (fun _ _ => False) s₀) (fun _ _ => False) s₁) (fun _ _ => False) ⟨h1, g, d, t1, os⟩
  done : ∀ h1 t1, St n ⟨h1, g, d, t1, os⟩ → wpAny (model pg w) A (pyNext (.ref I)) (fun r s₁ => r = none ∧ Mv wr [] ⟨h1, g, d, t1, os⟩ s₁) (fun _ _ => False) ⟨h1, g, d, t1, os⟩
/-- one target, any iterator -/
theorem lc_src1 (El : Nat → Value → Option Obj → Prop) (W : It w c b T id I fp wr [] n P St) (hA : AOk A (c + 1)) (hself : ∀ (A : Around) (E : Value → Shared → Prop) (Q : Value → Shared → Prop) s, St 0 s → Q (.ref I) s → wpAny (model pg w) A (pyIter (.ref I)) Q E s)
    (ht : ∀ v, letOwnedTupleGo target (.ref I) v = pure ()) (hnw : ∀ p ∈ nw, p.1 ∉ wr ∧ h₀.get? p.1 = none) (hwr : ∀ b ∈ wr, h₀.get? b = none)
    (hstep : ∀ C i v h1 t1 m1, h₀.objs.size ≤ C → i < n → P i v → Wk h₀ C h1 h1 m1 nw →
      wpAny (model pg w) A (assign target (compEnvC scope cl C env) v) (fun _ s₂ => wpAny (model pg w) A (eval elt (compEnvC scope cl C env)) (fun y s₃ => ∃ h2 t2 m2, s₃ = ⟨h2, g, d, t2, os⟩ ∧ Wk h₀ C h1 h2 m2 nw ∧ ElAt El i y [] h1 h2) (fun _ _ => False) s₂) (fun _ _ => False) ⟨h1, g, d, t1, os⟩) :
    LcSrc w A I fp wr n St cl elt target scope env g d os h₀ h nw El where
  sub := W.sub
  self := hself
  fr := fun i s s' st k e => W.frame i s s' st k (fun j hj => by cases hj)
  live := W.live
  turn := fun C i h1 t1 m1 hC hCw hCf hi hst hm hk hw => by
    refine W.py_item hA hi hst fun v s₁ p st₁ mv => ⟨v, rfl, wpAny_of_eq (ht v) ?_⟩
    obtain ⟨h2, t2, rfl⟩ := mv.shaped
    have F : Wk h₀ C h2 h2 m1 nw := ⟨⟨hm.at' fun o e => mv.keep _ o hCw e, fun b o e => mv.keep b o (fun q => by rw [hwr b q] at e; cases e) (hk b o (fun q => by rw [hwr b q] at e; cases e) e), hC⟩, fun p q => ⟨mv.keep _ _ (hnw p q).1 (hw p q).1, (hw p q).2, (hnw p q).2⟩, fun _ _ _ e => e⟩
    refine wpAny_mono (hstep C i v h2 t2 m1 hC hi p F) (fun _ s₂ q => wpAny_mono q (fun y s₃ q => ?_) fun _ _ e => e) fun _ _ e => e
    obtain ⟨h3, t3, m3, rfl, F3, hE⟩ := q
    refine ⟨h3, t3, m3, rfl, W.frame _ _ _ st₁ (fun b hb o e => F3.Z b o (fun z => hCf (z ▸ hb)) e) (fun j hj => by cases hj), F3.F.ns, fun b o b1 b2 e => F3.Z b o b2 (mv.keep b o b1 e), ?_⟩
    obtain ⟨o, e, q⟩ := hE
    refine ⟨o, e, fun ob z => ?_⟩
    obtain ⟨T, e1, nb, nT, hT⟩ := q ob z
    refine ⟨T, e1, nb, ?_, hT⟩
    cases e2 : h1.get? T with
    | none => rfl
    | some o2 => obtain ⟨o3, e3⟩ := mv.live _ _ e2; rw [show h2.get? T = some o3 from e3] at nT; cases nT
  done := fun h1 t1 st => W.py_done hA st fun s' mv => ⟨rfl, mv⟩
/-- a pair of targets, an iterator of pairs -/
theorem lc_src2 {x y : Str} {px py pt : Pos} {kt : Nat} (El : Nat → Value → Option Obj → Prop) (W : ItT w c b T id I fp wr [] n P2 St Mid) (hA : AOk A (c + 1)) (hself : ∀ (A : Around) (E : Value → Shared → Prop) (Q : Value → Shared → Prop) s, St 0 s → Q (.ref I) s → wpAny (model pg w) A (pyIter (.ref I)) Q E s)
    (hnw : ∀ p ∈ nw, p.1 ∉ wr ∧ h₀.get? p.1 = none) (hwr : ∀ b ∈ wr, h₀.get? b = none) (hx : ∀ C, (compEnvC scope cl C env).kindOf x = some .local) (hy : ∀ C, (compEnvC scope cl C env).kindOf y = some .local) (hsk : (relabel scope env).kind = .function)
    (hstep : ∀ C i v1 v2 h1 t1 (m1 : Str → Option Value), h₀.objs.size ≤ C → i < n → P2 i v1 v2 → Wk h₀ C h1 h1 (fun z => if z = y then some v2 else if z = x then some v1 else m1 z) nw →
      wpAny (model pg w) A (eval elt (compEnvC scope cl C env)) (fun y s₃ => ∃ h2 t2 m2, s₃ = ⟨h2, g, d, t2, os⟩ ∧ Wk h₀ C h1 h2 m2 nw ∧ ElAt El i y [] h1 h2) (fun _ _ => False) ⟨h1, g, d, t1, os⟩) :
    LcSrc w A I fp wr n St cl elt (.Tuple [.Name x px, .Name y py] kt pt) scope env g d os h₀ h nw El where
  sub := W.sub
  self := hself
  fr := fun i s s' st k e => W.frame i s s' st k (fun j hj => by cases hj)
  live := W.live
  turn := fun C i h1 t1 m1 hC hCw hCf hi hst hm hk hw => by
    refine W.py_item hA hi hst fun T' v1 v2 s₁ hPv hT' hTn hmid mv₁ => ⟨_, rfl, ?_⟩
    refine W.go _ _ _ _ _ _ _ _ _ hmid fun s₂ hst₂ mv₂ => ?_
    have hTw : T' ∉ wr := fun q => by obtain ⟨o, e⟩ := W.live _ _ hst T' q; rw [hTn] at e; cases e
    have hT₂ := mv₂.keep _ _ hTw hT'
    have mv := mv₁.trans mv₂
    clear mv₁ mv₂ hT' hmid
    obtain ⟨h2, t2, rfl⟩ := mv.shaped
    have F : Wk h₀ C h2 h2 m1 nw := ⟨⟨hm.at' fun o e => mv.keep _ o hCw e, fun b o e => mv.keep b o (fun q => by rw [hwr b q] at e; cases e) (hk b o (fun q => by rw [hwr b q] at e; cases e) e), hC⟩, fun p q => ⟨mv.keep _ _ (hnw p q).1 (hw p q).1, (hw p q).2, (hnw p q).2⟩, fun _ _ _ e => e⟩
    refine asg2 (L := C) hA.hd F hT₂ (fun h3 t3 F3 => ?_) rfl hsk (hx C) (hy C)
    refine wpAny_mono (hstep C i v1 v2 h3 t3 m1 hC hi hPv F3.mark) (fun y s₃ q => ?_) fun _ _ e => e
    obtain ⟨h4, t4, m4, rfl, F4, hE⟩ := q
    refine ⟨h4, t4, m4, rfl, W.frame _ _ _ hst₂ (fun b hb o e => F4.Z b o (fun z => hCf (z ▸ hb)) (F3.Z b o (fun z => hCf (z ▸ hb)) e)) (fun j hj => by cases hj), F4.F.ns, fun b o b1 b2 e => F4.Z b o b2 (F3.Z b o b2 (mv.keep b o b1 e)), ?_⟩
    obtain ⟨o, e, q⟩ := hE
    refine ⟨o, e, fun ob z => ?_⟩
    obtain ⟨T, e1, nb, nT, hT⟩ := q ob z
    refine ⟨T, e1, nb, ?_, hT⟩
    have hTC : T ≠ C := fun x => by obtain ⟨o, _, _, e, _⟩ := F3.F.ns; rw [x, e] at nT; cases nT
    cases e2 : h1.get? T with
    | none => rfl
    | some o2 =>
      obtain ⟨o3, e3⟩ := mv.live _ _ e2
      rw [F3.Z T o3 hTC e3] at nT; cases nT
  done := fun h1 t1 st => W.py_done hA st fun s' mv => ⟨rfl, mv⟩
theorem WkT.size (F : WkT h₀ L cs hz h m cm news) : h₀.objs.size ≤ h.objs.size := let ⟨_, e⟩ := F.liveL; Nat.le_of_lt (Nat.lt_of_le_of_lt F.F.above (Heap.lt_size e))
theorem lc_val {El : Nat → Value → Option Obj → Prop} {Q : Value → Shared → Prop} (S : LcSrc w A I fp wr n St cl elt target scope env g d os h₀ h nw El) (hn : n ≤ 100000) (hcell : ∀ y ∈ scope.names, y.2 ≠ .cell) (hkind : scope.kind = .function) (F : WkT h₀ L cs h h m cm news)
    (hfp : ∀ b ∈ fp, ∃ o, h.get? b = some o) (hst : St 0 ⟨h, g, d, t, os⟩) (hwr : ∀ b ∈ wr, Own h₀ L cs b) (hnews : ∀ p ∈ news, p.1 ∉ wr) (hnw : ∀ p ∈ nw, h.get? p.1 = some p.2 ∧ p.1 ∉ wr)
    (hQ : ∀ D h' t' ys, h.get? D = none → h'.PlainList D ys → WkT h₀ L cs h' h' m cm news → Own h₀ L cs D → ys.size = n → (∀ i < n, ElAt El i (ys.getD i .none) (D :: wr) h h') → Q (.ref D) ⟨h', g, d, t', os⟩) :
    LcQ w A E env scope cl elt target iter pos none Q (.ref I) ⟨h, g, d, t, os⟩ := by
  refine lc_core El (compPost (model pg w) A E none Q) hn hcell hkind S.sub hfp S.self S.fr S.live (fun C i h1 t1 m1 hC hCw hCf hi hs hm hk => S.turn C i h1 t1 m1 (Nat.le_trans F.size hC) hCw hCf hi hs hm (fun b o hb e => hk b o hb (F.old b o e)) fun p hp => ⟨hk _ _ (hnw p hp).2 (hnw p hp).1, fun q => Nat.not_lt.mpr hC (q ▸ Heap.lt_size (hnw p hp).1)⟩) S.done hst ?_
  intro D C h' t' m' ys nD nC hDC hm hl hsz hk hel
  refine ⟨m', hm, fun h2 sb => ?_⟩
  refine hQ D h2 t' ys nD (hl.at fun o e => sb.extBut D o hDC e) ?_ (F.ownNew nD) hsz fun i hi => ElAt.mono (hel i hi) (by intro b hb; simp only [List.mem_cons] at hb ⊢; rcases hb with h | h <;> simp [h]) (fun b o hb e => sb.extBut b o (fun z => hb (by simp [z])) e)
  refine F.ext (bad := C :: wr) (fun b o hb e => sb.extBut b o (fun z => hb (by simp [z])) (hk b o (fun z => hb (by simp [z])) e)) (fun a ha => ?_) (fun p hp q => ?_)
  · rcases List.mem_cons.mp ha with rfl | ha
    · exact F.ownNew nC
    · exact hwr a ha
  · rcases List.mem_cons.mp q with q | q
    · have := (F.N p hp).1; rw [q, nC] at this; cases this
    · exact hnews p hp q
theorem lc_asg {El : Nat → Value → Option Obj → Prop} {Q : Flow → Shared → Prop} {y : Str} {py : Pos} (S : LcSrc w A I fp wr n St cl elt target scope env g d os h₀ h nw El) (hn : n ≤ 100000) (hcell : ∀ y ∈ scope.names, y.2 ≠ .cell) (hkind : scope.kind = .function) (F : WkT h₀ L cs h h m cm news)
    (hfp : ∀ b ∈ fp, ∃ o, h.get? b = some o) (hst : St 0 ⟨h, g, d, t, os⟩) (hwr : ∀ b ∈ wr, Own h₀ L cs b) (hnews : ∀ p ∈ news, p.1 ∉ wr) (hnw : ∀ p ∈ nw, h.get? p.1 = some p.2 ∧ p.1 ∉ wr)
    (hL : env.locals = L) (hk : env.scope.kind = .function) (hy : env.kindOf y = some .local)
    (hQ : ∀ D h' t' ys, h.get? D = none → h'.PlainList D ys → WkT h₀ L cs h' h' (fun z => if z = y then some (.ref D) else m z) cm news → Own h₀ L cs D → ys.size = n → (∀ i < n, ElAt El i (ys.getD i .none) (D :: wr) h h') → Q .next ⟨h', g, d, t', os⟩) :
    LcQ w A E env scope cl elt target iter pos (some (assign (.Name y py) env)) (fun _ s' => Q .next s') (.ref I) ⟨h, g, d, t, os⟩ := by
  refine lc_core El (compPost (model pg w) A E (some (assign (.Name y py) env)) (fun _ s' => Q .next s')) hn hcell hkind S.sub hfp S.self S.fr S.live (fun C i h1 t1 m1 hC hCw hCf hi hs hm hk => S.turn C i h1 t1 m1 (Nat.le_trans F.size hC) hCw hCf hi hs hm (fun b o hb e => hk b o hb (F.old b o e)) fun p hp => ⟨hk _ _ (hnw p hp).2 (hnw p hp).1, fun q => Nat.not_lt.mpr hC (q ▸ Heap.lt_size (hnw p hp).1)⟩) S.done hst ?_
  intro D C h' t' m' ys nD nC hDC hm hl hsz hkp hel
  have F' : WkT h₀ L cs h' h' m cm news := F.ext (bad := wr) hkp hwr hnews
  have hLC := F.neL nC
  have hLD := F.neL nD
  show wpAny _ A (assign (.Name y py) env (.ref D)) _ _ _
  refine wpAny_assign_Name (tstL F' (fun h₂ t₂ F₂ => ?_) hL hk hy)
  have k2 : ∀ b o, b ≠ L → (∀ n, (n, b) ∉ cs) → h'.get? b = some o → h₂.get? b = some o := F₂.Z
  have hcC : ∀ n, (n, C) ∉ cs := (F.ownNew nC).2.2.2
  have hcD : ∀ n, (n, D) ∉ cs := (F.ownNew nD).2.2.2
  refine ⟨m', hm.at' fun o e => k2 C o (Ne.symm hLC) hcC e, fun h3 sb => ?_⟩
  refine hQ D h3 t₂ ys nD ((hl.at fun o e => k2 D o (Ne.symm hLD) hcD e).at fun o e => sb.extBut D o hDC e) ?_ (F.ownNew nD) hsz fun i hi => ?_
  · refine F₂.ext (bad := [C]) (fun b o hb e => sb.extBut b o (fun z => hb (by simp [z])) e) (fun a ha => by rw [List.mem_singleton.mp ha]; exact F.ownNew nC) (fun p hp q => ?_)
    have := (F.N p hp).1; rw [List.mem_singleton.mp q, nC] at this; cases this
  · obtain ⟨o, e, q⟩ := hel i hi
    refine ⟨o, e, fun ob z => ?_⟩
    obtain ⟨T, e1, nb, nT, hT⟩ := q ob z
    refine ⟨T, e1, fun r => nb (by simp only [List.mem_cons] at r ⊢; rcases r with h | h <;> simp [h]), nT, sb.extBut T _ (fun z => nb (by simp [z])) (k2 T _ (Ne.symm (F.neL nT)) (F.ownNew nT).2.2.2 hT)⟩
theorem WkT.cellOut {n : Str} {c : Addr} (F : WkT h₀ L cs hz h m cm news) (e : cs.lookup n = some c) : h₀.get? c = none := by
  cases q : h₀.get? c with
  | none => rfl
  | some o => exact absurd (Heap.lt_size q) (Nat.not_lt.mpr (Nat.le_of_lt (Nat.lt_of_le_of_lt F.F.above (F.C.above n c (mem_of_lookup e)))))
/-- what the rules ask of the cells that a comprehension reads -/
theorem WkT.cellNw {n : Str} {c I : Addr} (F : WkT h₀ L cs hz h m cm news) (w : Own h₀ L cs I) (e : cs.lookup n = some c) : c ∉ [I] ∧ h₀.get? c = none :=
  ⟨fun q => w.2.2.2 n (by rw [List.mem_singleton] at q; exact q ▸ mem_of_lookup e), F.cellOut e⟩
/-- the expression -/
theorem lc_eval {Q : Value → Shared → Prop} {s : Shared} (hclos : closureFor scope env = pure cl) (hkind : scope.kind = .function)
    (hnames : ∀ y ∈ scope.names, y.2 = .local → scope.names.lookup y.1 = some .local)
    (h : wpAny (model pg w) A (eval iter env) (fun xv s₁ => wpAny (model pg w) A (pyIter xv) (LcQ w A E env scope cl elt target iter pos none Q) E s₁) E s)
    (hs : ∀ x, foldedSetIterable iter env x = pure x) :
    wpAny (model pg w) A (eval (.ListComp elt [⟨target, iter, [], 0⟩] scope pos) env) Q E s := by
  rw [eval_ListComp]
  exact wpAny_comprehension_free (use := none) rfl hs hclos hkind hnames h
/-- the statement that binds a name to it -/
theorem lc_exec {Q : Flow → Shared → Prop} {s : Shared} {y : Str} {py spos : Pos} (hsw : swapsWith (.ListComp elt [⟨target, iter, [], 0⟩] scope pos) (some (.Name y py)) spos.line env = pure true) (hclos : closureFor scope env = pure cl) (hkind : scope.kind = .function)
    (hnames : ∀ y ∈ scope.names, y.2 = .local → scope.names.lookup y.1 = some .local)
    (h : wpAny (model pg w) A (eval iter env) (fun xv s₁ => wpAny (model pg w) A (pyIter xv) (LcQ w A E env scope cl elt target iter pos (some (assign (.Name y py) env)) (fun _ s' => Q .next s')) E s₁) E s)
    (hs : ∀ x, foldedSetIterable iter env x = pure x) :
    wpAny (model pg w) A (exec (.Assign [.Name y py] (.ListComp elt [⟨target, iter, [], 0⟩] scope pos) spos) env) Q E s := by
  rw [exec_Assign_Name_used _ _ _ _ hsw]
  refine wpAny_bind (wpAny_standAt (wpAny_bind ?_))
  show wpAny _ A (do let _ ← comprehension (.ListComp elt [⟨target, iter, [], 0⟩] scope pos) scope env _ (newList []) false (eval iter env) (some (assign (.Name y py) env))) _ _ s
  exact wpAny_bind (wpAny_mono (wpAny_comprehension_free (use := some (assign (.Name y py) env)) (Q := fun _ s' => Q .next s') rfl hs hclos hkind hnames h) (fun _ s' hq => wpAny_pure (wpAny_pure hq)) fun _ _ e => e)
end
end
end
section
local macro_rules | `(tactic| lcg_off) => `(tactic| (intro $(Lean.mkIdent `h) _ $(Lean.mkIdent `k); (first | replace $(Lean.mkIdent `F) := WkT.kept $(Lean.mkIdent `F) $(Lean.mkIdent `k) | replace $(Lean.mkIdent `F) := Wk.kept $(Lean.mkIdent `F) $(Lean.mkIdent `k)); clear $(Lean.mkIdent `k)))
local macro_rules | `(tactic| lcg_src) => `(tactic| (intro $(Lean.mkIdent `h) _ _ $(Lean.mkIdent `k); (first | replace $(Lean.mkIdent `F) := WkT.kept $(Lean.mkIdent `F) $(Lean.mkIdent `k) | replace $(Lean.mkIdent `F) := Wk.kept $(Lean.mkIdent `F) $(Lean.mkIdent `k)); clear $(Lean.mkIdent `k)))
local macro_rules | `(tactic| x_close) => `(tactic| first
  | exact $(Lean.mkIdent `hk) _ _ Keeps.refl
  | exact $(Lean.mkIdent `hk) _ _ (keeps_of_mem (by assumption))
  | exact $(Lean.mkIdent `hk) _ _ _ Keeps.refl
  | exact $(Lean.mkIdent `hk) _ _ _ (keeps_of_mem (by assumption))
  | (apply $(Lean.mkIdent `hk); assumption)
  | (exact $(Lean.mkIdent `hk) _ _ _ (keeps_of_mem (by assumption)) (X.Mem.nw (by assumption) _ (List.mem_cons_self ..)).1 (X.Mem.nw (by assumption) _ (List.mem_cons_self ..)).2)
)
local macro_rules | `(tactic| tb_rel) => `(tactic| first
  | (with_reducible show wpAny _ _ (eval (Expr.Name _ _) _) _ _ _; first
      | with_reducible refine tL $(Lean.mkIdent `F) (by with_unfolding_all first | rfl | assumption) ?_ (by with_unfolding_all rfl) (by with_unfolding_all rfl) (by with_unfolding_all rfl) (by with_unfolding_all decide)
      | with_reducible refine tC $(Lean.mkIdent `F) (by with_unfolding_all first | rfl | assumption) ?_ (by with_unfolding_all rfl) (by with_unfolding_all rfl) (by with_unfolding_all rfl) (by with_unfolding_all rfl) (by with_unfolding_all decide)
      | with_reducible refine tGl $(Lean.mkIdent `X) $(Lean.mkIdent `F) (by with_unfolding_all rfl) ?_ (by with_unfolding_all rfl) (by with_unfolding_all rfl) (by with_unfolding_all rfl) (by with_unfolding_all rfl) (by with_unfolding_all decide)
      | with_reducible refine wL $(Lean.mkIdent `F) (by with_unfolding_all first | rfl | assumption) ?_ (by with_unfolding_all rfl) (by with_unfolding_all rfl) (by with_unfolding_all rfl) (by with_unfolding_all decide)
      | with_reducible refine wFr $(Lean.mkIdent `F) (by with_reducible assumption) (by with_unfolding_all first | rfl | assumption) ?_ (by with_unfolding_all rfl) (by with_unfolding_all rfl) (by with_unfolding_all rfl) (by with_unfolding_all decide) (by with_unfolding_all decide)
      | with_reducible refine wGl $(Lean.mkIdent `X) $(Lean.mkIdent `F) (by with_unfolding_all rfl) ?_ (by with_unfolding_all rfl) (by with_unfolding_all rfl) (by with_unfolding_all rfl) (by with_unfolding_all rfl) (by with_unfolding_all decide))
  | (with_reducible show wpAny _ _ (eval _ _) _ _ _; first
      | with_reducible refine e_int ?_
      | with_reducible refine e_str ?_
      | with_reducible refine wpAny_BinOp ?_
      | with_reducible refine wpAny_Compare1 ?_
      | with_reducible refine wpAny_UnaryOp ?_
      | with_reducible refine callN ?_
      | with_reducible refine sub_sl ?_
      | with_reducible refine sub_ix ?_
      | with_reducible refine s_ifx ?_
      | with_reducible refine Attribute_name ?_
      | with_reducible refine e_bool ?_
      | with_reducible refine e_none ?_)
  | (with_reducible show wpAny _ _ (execs _ _) _ _ _; first
      | with_reducible refine s_cons ?_
      | with_reducible refine s_nil ?_)
  | (with_reducible show wpAny _ _ (exec _ _) _ _ _; first
      | with_reducible refine wpAny_Assign_Name ?_ (by with_unfolding_all rfl)
      | with_reducible refine s_if ?_
      | with_reducible refine wpAny_Return_some ?_
      | with_reducible refine wpAny_AugAssign_Name ?_
      | with_reducible refine s_for ?_ (by intro _; with_unfolding_all rfl)
      | with_reducible refine wpAny_Assert_holds ?_)
  | (with_reducible show wpAny _ _ (storeName _ _ _) _ _ _; first
      | (with_reducible refine tstL $(Lean.mkIdent `F) ?_ (by with_unfolding_all rfl) (by with_unfolding_all rfl) (by with_unfolding_all rfl); clear $(Lean.mkIdent `F); intro _ _ $(Lean.mkIdent `F))
      | (with_reducible refine tstC $(Lean.mkIdent `F) ?_ (by with_unfolding_all rfl) (by with_unfolding_all rfl) (by with_unfolding_all rfl) (by with_unfolding_all rfl); clear $(Lean.mkIdent `F); intro _ _ $(Lean.mkIdent `F))
      | (with_reducible refine wstL $(Lean.mkIdent `F) ?_ (by with_unfolding_all rfl) (by with_unfolding_all rfl) (by with_unfolding_all rfl); clear $(Lean.mkIdent `F); intro _ _ $(Lean.mkIdent `F)))
  | (with_reducible show wpAny _ _ (loadName _ _) _ _ _; first
      | with_reducible refine tldL $(Lean.mkIdent `F) (by with_unfolding_all first | rfl | assumption) ?_ (by with_unfolding_all rfl) (by with_unfolding_all rfl) (by with_unfolding_all rfl)
      | with_reducible refine tldC $(Lean.mkIdent `F) (by with_unfolding_all first | rfl | assumption) ?_ (by with_unfolding_all rfl) (by with_unfolding_all rfl) (by with_unfolding_all rfl) (by with_unfolding_all rfl)
      | with_reducible refine wldL $(Lean.mkIdent `F) (by with_unfolding_all first | rfl | assumption) ?_ (by with_unfolding_all rfl) (by with_unfolding_all rfl) (by with_unfolding_all rfl))
  | (with_reducible show wpAny _ _ (spliced _) _ _ _; first
      | with_reducible refine wpAny_items_cons ?_ (by with_unfolding_all rfl)
      | with_reducible refine wpAny_items_nil ?_)
  | (with_reducible show wpAny _ _ (callWith _ _ _ _ _) _ _ _; first
      | with_reducible refine callB ?_ (by with_unfolding_all rfl) (by with_unfolding_all rfl)
      | with_reducible refine callT ?_ (by with_unfolding_all rfl) (by with_unfolding_all rfl)
      | with_reducible refine callKn $(Lean.mkIdent `X) (by kernel_rfl) ?_ (by with_unfolding_all rfl) (by with_unfolding_all rfl))
  | (with_reducible show wpAny _ _ (isTrue _ _ _) _ _ _; first
      | with_reducible refine wpAny_isTrue_Compare1 ?_
      | with_reducible refine wpAny_isTrue_Not ?_
      | with_reducible refine wpAny_isTrue_BoolOp ?_
      | with_reducible refine wpAny_isTrue_value ?_ (by with_unfolding_all rfl))
  | (with_reducible show wpAny _ _ (truthy _) _ _ _; first
      | with_reducible refine t_bool ?_
      | with_reducible refine t_int ?_)
  | (with_reducible show wpAny _ _ (compareOp _ _ _) _ _ _; first
      | with_reducible refine i_eq ?_
      | with_reducible refine i_ne ?_
      | with_reducible refine i_lt ?_
      | with_reducible refine i_gt ?_
      | with_reducible refine i_ge ?_
      | with_reducible refine is_nn ?_)
  | (with_reducible show wpAny _ _ (binaryOp _ _ _) _ _ _; first
      | (with_reducible refine n_and63 ?_; intro _ _)
      | (with_reducible refine n_and15 ?_; intro _ _)
      | (with_reducible refine n_and3 ?_; intro _ _)
      | (with_reducible refine n_or ?_; intro _ _)
      | (with_reducible refine n_shr2 ?_; intro _ _)
      | (with_reducible refine n_shr4 ?_; intro _ _)
      | (with_reducible refine n_shr6 ?_; intro _ _)
      | (with_reducible refine n_shl2 (by omega) ?_; intro _ _)
      | (with_reducible refine n_shl4 (by omega) ?_; intro _ _)
      | (with_reducible refine n_shl6 (by omega) ?_; intro _ _)
      | (with_reducible refine i_add ?_; intro _ _)
      | (with_reducible refine i_sub ?_; intro _ _)
      | (with_reducible refine i_and ?_; intro _ _)
      | (with_reducible refine i_or ?_; intro _ _)
      | (with_reducible refine i_xor ?_; intro _ _))
  | (with_reducible show wpAny _ _ (inplaceOp _ _ _) _ _ _; first
      | (with_reducible refine i_iand ?_; intro _ _)
      | (with_reducible refine i_ior ?_; intro _ _)
      | (with_reducible refine i_iadd ?_; intro _ _))
  | (with_reducible show wpAny _ _ (unaryOp _ _) _ _ _; first
      | (with_reducible refine i_neg ?_; intro _ _)
      | (with_reducible refine i_inv ?_; intro _ _))
  | (with_reducible show wpAny _ _ (evalPart _ _) _ _ _; first
      | with_reducible refine part0 ?_
      | with_reducible refine part1 ?_)
  | with_reducible refine then_next ?_
  | with_reducible refine then_ret ?_
  | with_reducible refine br_t ?_
  | with_reducible refine br_f ?_
  | with_reducible refine br_nt ?_
  | with_reducible refine br_nf ?_
  | with_reducible refine And.intro (fun _ => WkT.top $(Lean.mkIdent `F) $(Lean.mkIdent `X)) ?_
  | with_reducible refine And.intro (fun _ => Wk.top $(Lean.mkIdent `F) $(Lean.mkIdent `X)) ?_
  | with_reducible refine retQ ?_
  | with_reducible refine brE_t ?_
  | with_reducible refine brE_f ?_)
section
def freeN (n : Nat) : Nat := if n % 4 = 2 then 4 else if n % 4 = 3 then 2 else 0
def spoA (big : Bool) (f j : Nat) : Nat := if big then j else j * 2 ^ (6 - f)
theorem free_at {a b c d : Tok} (n : Nat) : ∃ u, [Value.int 0 a, .int 0 b, .int 4 c, .int 2 d][n % 4]? = some (.int (freeN n : Int) u) := by
  have h : n % 4 = 0 ∨ n % 4 = 1 ∨ n % 4 = 2 ∨ n % 4 = 3 := by omega
  rcases h with h | h | h | h <;> simp [freeN, h]
theorem freeN_le (n : Nat) : freeN n ≤ 4 := by unfold freeN; split <;> (try split) <;> omega
section
variable {w : World} {A : Around} {n : Nat} {E : Value → Shared → Prop} {Q : Value → Shared → Prop} {hp h : Heap} {g : Array GenState} {d : Drawn} {t : Nat} {os : OsState} {chars : Array UInt8} {big : Bool} {t1 t2 t3 t4 : Tok} {vs : List Nat}
theorem spoil_ok {J : Int} (hvs : ∀ v ∈ vs, v < 64) (hne : vs ≠ []) (hl : vs.length ≤ 100) (hA : AOk A 8) (X : Top w hp) (C : Chs chars) {j : Nat} (hj : J % (2 ^ freeN vs.length : Nat) = (j : Int)) (hat : vs.getLastD 0 + spoA big (freeN vs.length) j < 64)
   (hQ : ∀ h' t' Tp u, Keeps hp h' → hp.get? Tp = none → h'.get? Tp = some (tupObj (.bool (j != 0)) (.str (strL (wordL chars (vs.dropLast ++ [vs.getLastD 0 + spoA big (freeN vs.length) j]))) u)) → Q (.ref Tp) ⟨h', g, d, t', os⟩) :
   wpAny (model pg w) A (call (.ref 310) [.str (strL (wordL chars vs)) t1, .str (strL (natsOf chars)) t2, .bool big, .int J t3]) Q E ⟨hp, g, d, t, os⟩ := by
  refine wpAny_call (code_fn' (n := 6) (binds := [("word", .str (strL (wordL chars vs)) t1), ("signs", .str (strL (natsOf chars)) t2), ("big", .bool big), ("junk", .int J t3)]) hA X fn310 (by rfl) (by decide) (by rfl) (locs (by rfl)) ?_)
  intro h₁ t₁ L F hA'
  refine s_cons ?_
  repeat tb_rel
  refine e_tup ?_
  repeat tb_rel
  refine tup_q (by simp) ?_
  intro h2 Tf k2 hTf nTf
  replace F := F.kept k2
  repeat tb_rel
  refine r_slen (by rw [wordL_len]; omega) ?_
  intro _ _
  rw [wordL_len]
  repeat tb_rel
  refine i_mod (by decide) ?_
  intro _ _
  have hfm : (vs.length : Int).fmod 4 = ((vs.length % 4 : Nat) : Int) := by rw [Int.fmod_eq_emod_of_nonneg _ (by decide)]; omega
  rw [hfm]
  repeat tb_rel
  obtain ⟨u, hx⟩ := free_at _
  refine item_tupleT ⟨_, hTf, rfl, _, rfl⟩ (by omega) (by omega) (j := vs.length % 4) (by exact seqN (by show vs.length % 4 < 4; omega)) hx ?_ (by with_unfolding_all rfl)
  have hfr := freeN_le vs.length
  repeat tb_rel
  refine i_shl (by omega) (by omega) (by decide) ?_
  intro _ _
  repeat tb_rel
  rw [show (1 * 2 ^ ((freeN vs.length : Nat) : Int).toNat : Int) = ((2 ^ freeN vs.length : Nat) : Int) by simp]
  have hpp : 0 < 2 ^ freeN vs.length := Nat.two_pow_pos _
  repeat tb_rel
  refine i_mod (Int.natCast_ne_zero.mpr (Nat.pos_iff_ne_zero.mp hpp)) ?_
  intro _ _
  rw [Int.fmod_eq_emod_of_nonneg _ (Int.natCast_nonneg _), hj]
  repeat tb_rel
  refine MethodCall_ ?_ (by rfl)
  repeat tb_rel
  refine GM.index ?_
  repeat tb_rel
  have hlast := last_lt hvs hne
  have hpos := List.length_pos_iff.mpr hne
  refine tl_Si (kk := vs.length - 1) (by rw [wordL_len]; omega) (by rw [wordL_len]; omega) (by rw [wordL_len]; omega) (by rw [wordL_len]; exact seqM1 hpos) (by rw [wordL_len]; omega) ?_ (by with_unfolding_all rfl) (by intro _; with_unfolding_all rfl)
  intro _ _
  rw [wordL_at chars vs (by omega), ← last_at hne]
  repeat tb_rel
  refine s_index (natsOf_at chars (by rw [C.size]; exact hlast)) (fun j hj => ?_) ?_
  · have hj' : j < 64 := by
      have := (List.getElem?_eq_some_iff.mp hj).1
      unfold natsOf at this
      rw [List.length_map, Array.length_toList, C.size] at this
      exact this
    rw [natsOf_at chars (by rw [C.size]; exact hj')] at hj
    exact C.inj _ _ hj' hlast (Option.some.inj hj)
  intro _ _
  repeat tb_rel
  have hns : (natsOf chars).length = 64 := by unfold natsOf; rw [List.length_map, Array.length_toList, C.size]
  cases big with
  | true =>
    repeat tb_rel
    have hv : ((vs.getLastD 0 : Nat) : Int) + (j : Int) = ((vs.getLastD 0 + spoA true (freeN vs.length) j : Nat) : Int) := by simp [spoA]
    generalize hNe : vs.getLastD 0 + spoA true (freeN vs.length) j = N at hat hQ hv
    have hN := hat
    repeat tb_rel
    refine e_tup ?_
    repeat tb_rel
    refine tl_S (kk := vs.length - 1) (by rw [wordL_len]; omega) (by rw [wordL_len, if_pos (by decide)]; omega) (by rw [wordL_len]; omega) ?_ (by intro _; with_unfolding_all rfl) (by intro _; with_unfolding_all rfl)
    lcg_src
    repeat tb_rel
    rw [hv]
    refine tl_Si (kk := N) (by rw [hns]; exact hN) (by omega) (by rw [hns]; omega) (by rw [hns]; exact seqN hN) (by rw [hns]; omega) ?_ (by with_unfolding_all rfl) (by intro _; with_unfolding_all rfl)
    intro _ _
    rw [List.getD_eq_getElem?_getD, natsOf_at chars (by rw [C.size]; exact hN), Option.getD_some]
    repeat tb_rel
    refine s_add (by simp only [List.length_take, wordL_len, List.length_cons, List.length_nil]; omega) ?_
    intro uu _
    repeat tb_rel
    refine tup_q (by simp) ?_
    intro h3 Tp k3 hT nT
    have oT : hp.get? Tp = none := by
      cases q : hp.get? Tp with
      | none => rfl
      | some o => rw [F.old _ _ q] at nT; cases nT
    replace F := F.kept k3
    repeat tb_rel
    refine hQ _ _ _ uu F.old oT ?_
    rw [hT]
    unfold tupObj wordL
    rw [List.map_append, List.map_dropLast, List.dropLast_eq_take, List.length_map, show ((j : Int) != 0) = (j != 0) by rw [Bool.eq_iff_iff]; simp]
    rfl
  | false =>
    repeat tb_rel
    have hjb : j < 64 := by
      have h1 : j * 1 ≤ j * 2 ^ (6 - freeN vs.length) := Nat.mul_le_mul_left j (Nat.two_pow_pos _)
      have h2 : spoA false (freeN vs.length) j = j * 2 ^ (6 - freeN vs.length) := rfl
      omega
    refine i_shl (by omega) (by omega) (by have : (64 : Nat) ≤ 2 ^ 128 := by decide
                                           omega) ?_
    intro _ _
    have hv : ((vs.getLastD 0 : Nat) : Int) + (j : Int) * 2 ^ ((6 : Int) - ((freeN vs.length : Nat) : Int)).toNat = ((vs.getLastD 0 + spoA false (freeN vs.length) j : Nat) : Int) := by
      rw [show ((6 : Int) - ((freeN vs.length : Nat) : Int)).toNat = 6 - freeN vs.length by omega]; simp [spoA]
    generalize hNe : vs.getLastD 0 + spoA false (freeN vs.length) j = N at hat hQ hv
    have hN := hat
    repeat tb_rel
    refine e_tup ?_
    repeat tb_rel
    refine tl_S (kk := vs.length - 1) (by rw [wordL_len]; omega) (by rw [wordL_len, if_pos (by decide)]; omega) (by rw [wordL_len]; omega) ?_ (by intro _; with_unfolding_all rfl) (by intro _; with_unfolding_all rfl)
    lcg_src
    repeat tb_rel
    rw [hv]
    refine tl_Si (kk := N) (by rw [hns]; exact hN) (by omega) (by rw [hns]; omega) (by rw [hns]; exact seqN hN) (by rw [hns]; omega) ?_ (by with_unfolding_all rfl) (by intro _; with_unfolding_all rfl)
    intro _ _
    rw [List.getD_eq_getElem?_getD, natsOf_at chars (by rw [C.size]; exact hN), Option.getD_some]
    repeat tb_rel
    refine s_add (by simp only [List.length_take, wordL_len, List.length_cons, List.length_nil]; omega) ?_
    intro uu _
    repeat tb_rel
    refine tup_q (by simp) ?_
    intro h3 Tp k3 hT nT
    have oT : hp.get? Tp = none := by
      cases q : hp.get? Tp with
      | none => rfl
      | some o => rw [F.old _ _ q] at nT; cases nT
    replace F := F.kept k3
    repeat tb_rel
    refine hQ _ _ _ uu F.old oT ?_
    rw [hT]
    unfold tupObj wordL
    rw [List.map_append, List.map_dropLast, List.dropLast_eq_take, List.length_map, show ((j : Int) != 0) = (j != 0) by rw [Bool.eq_iff_iff]; simp]
    rfl
end
end
end
section
section
section
variable {w : World} {A : Around} {E : Value → Shared → Prop} {hp : Heap} {g : Array GenState} {d : Drawn} {t : Nat} {os : OsState} {t1 t2 : Tok} {b : Array UInt8} {Q : Value → Shared → Prop}
/-- int.from_bytes, taken off the class -/
theorem gm_fb {pl : Sem Bool} {Q : Value × List Value → Shared → Prop} (X : Top w hp) (k : ∀ x h' t', Keeps hp h' → h'.get? x = some KFB.bound → Q (.ref x, []) ⟨h', g, d, t', os⟩) :
    wpAny (model pg w) A (getMethod (.type "int") "from_bytes" pl) Q E ⟨hp, g, d, t, os⟩ := by
  have hstub : opaqueClassAbove (.type "int") = pure none := by unfold opaqueClassAbove; dsimp only; rw [show Manifest.isStub "int" = false by decide +kernel]; rfl
  have ht : typeOf (.type "int") = pure (.type "type") := by first | rfl | kernel_rfl
  have L0 : Looks (model pg w) hp (typeOf (.type "int")) (.type "type") := Looks.of_pure ht
  have hg : findIn (K1 w.params) (.type "type") "__getattribute__" = some (some (.builtin "type.__getattribute__")) := type_tga
  unfold getMethod specialOf
  refine wpAny_bind (wpAny_bind (L0.here ((looks_findIn X hg).here ?_)))
  dsimp only
  rw [if_pos canon_tga]
  refine wpAny_bind (wpAny_mono (Q := fun v => Q (v, [])) (E := E) ?_ (fun _ _ z => wpAny_pure z) fun _ _ z => z)
  have LO : Looks (model pg w) hp (opaqueClassAbove (.type "int")) none := Looks.of_pure hstub
  refine cls_open X LO L0 hg (looks_hook X (r := none) (by rfl)) (by show subIn (K1 w.params) _ _ = _; rfl) (by kernel_rfl : findCls (K1 w.params) (.type "int") (.type "type") (PySem.Str.ofString "from_bytes") = some (.get (.builtin "classmethod_descriptor.__get__") (.builtin "int.from_bytes") .none (.type "int"))) ?_
  show wpAny _ _ (holding [.builtin "int.from_bytes"] (call (.builtin "classmethod_descriptor.__get__") [.builtin "int.from_bytes", .none, .type "int"]) >>= fun v => ret v) _ _ _
  exact wpAny_bind (wpAny_holding (wpAny_call_entry KFB.slot_get KFB.type_fb KFB.entry_get (KFB.run_get ⟨_, rfl, wpAny_pure (wpAny_pure (k _ _ _ (fun b o e => Heap.get?_push_of_some _ e) (Heap.get?_push_size _ rfl)))⟩) (KFB.args_get _ _ _)))
theorem cw_fb {pos : Pos} {u : Addr} {first : List Value} {env : Env} {e : PySem.Expr} {rest : List PySem.Expr} {M : Model} {s : Shared}
    (h : wpAny M A (spliced (backTo pos (starEach (e :: rest) env))) (fun vs s₁ => s₁.heap.get? u = some KFB.bound ∧ wpAny M A (call (.ref u) (first ++ vs)) Q E s₁) E s)
    (he : starEach (e :: rest) env = (false, eval e env) :: starEach rest env := by rfl) (hplain : (backTo pos (starEach rest env)).any (·.1) = false := by rfl) :
    wpAny M A (callWith pos (.ref u) first (backTo pos (starEach (e :: rest) env)) []) Q E s := by
  rw [he] at h ⊢
  refine KFB.callWith_fields (by show (false || (backTo pos (starEach rest env)).any (·.1)) = false; rw [hplain]; rfl) ?_
  exact evalArgs_plain h
theorem fb_big {x : Addr} (ho : hp.get? x = some KFB.bound) (hl : b.size ≤ 8) (k : ∀ u t, Q (.int (leN b.toList.reverse : Int) u) ⟨hp, g, d, t, os⟩) : wpAny (model pg w) A (call (.ref x) [.bytes b t1, .str "big" t2]) Q E ⟨hp, g, d, t, os⟩ := by
  refine KFB.call_of (s := ⟨hp, g, d, t, os⟩) ho (fun z => KFB.tree_big hl z) ?_
  rw [value_be]
  exact k _ _
theorem fb_little {x : Addr} (ho : hp.get? x = some KFB.bound) (hl : b.size ≤ 8) (k : ∀ u t, Q (.int (leN b.toList : Int) u) ⟨hp, g, d, t, os⟩) : wpAny (model pg w) A (call (.ref x) [.bytes b t1, .str "little" t2]) Q E ⟨hp, g, d, t, os⟩ := by
  refine KFB.call_of (s := ⟨hp, g, d, t, os⟩) ho (fun z => KFB.tree_little hl z) ?_
  rw [show KBw.bInts b = b.toList.map fun c => (c.toNat : Int) from rfl, value_le]
  exact k _ _
theorem i_range1 {n : Int} {u : Tok} (k : ∀ h' t' r u1 u3, Keeps hp h' → h'.get? r = some (rngObj 0 n 1 u1 u u3) → hp.get? r = none → Q (.ref r) ⟨h', g, d, t', os⟩) :
    wpAny (model pg w) A (call (.type "range") [.int n u]) Q E ⟨hp, g, d, t, os⟩ :=
  call_range_1 (s := ⟨hp, g, d, t, os⟩) (k _ _ _ _ _ (fun b o e => Heap.get?_push_of_some _ e) (Heap.get?_push_size _ rfl) (get_size hp))
/-- a name of a comprehension that is a cell of the function around it -/
theorem wCe {h₀ hz h : Heap} {L c : Addr} {m : Str → Option Value} {news : List (Addr × Obj)} {M : Model} {env : Env} {x : Str} {pos : Pos} {v : Value} {o : Obj} (F : Wk h₀ L hz h m news) 
    (hk : env.scope.kind = .function) (hl : env.kindOf x = some .cell) (hc : env.cells.lookup x = some c) (hd : (x == ("__debug__" : Str)) = false) (hm : (c, o) ∈ news) (ho : o.data = .cell (some v)) (hq : Q v ⟨h, g, d, t, os⟩) :
    wpAny M A (eval (.Name x pos) env) Q E ⟨h, g, d, t, os⟩ := wpAny_Name (wpAny_loadName_cell hk hl hc ⟨o, F.get hm, ho⟩ hq) hd
/-- texts joined -/
def joinL (sep : List Nat) : List (List Nat) → List Nat
  | [] => []
  | [x] => x
  | x :: y :: r => x ++ sep ++ joinL sep (y :: r)
theorem join_L (sep : List Nat) : ∀ ls : List (List Nat), PySem.Txt.join (strL sep) (ls.map strL) = strL (joinL sep ls) := by
  have ap : ∀ a b : List Nat, strL a ++ strL b = strL (a ++ b) := fun a b => by
    show (⟨(strL a).cps ++ (strL b).cps⟩ : Str) = _
    unfold strL; simp
  intro ls
  refine (StrLaws.glued_eq_join _ _).trans ?_
  induction ls with
  | nil => rfl
  | cons x r ih =>
    cases r with
    | nil => rfl
    | cons y r =>
      show strL x ++ strL sep ++ Str.join (strL sep) ((y :: r).map strL) = _
      rw [ih, ap, ap]
      rfl
def sumL (ls : List (List Nat)) (k : Nat) : Nat := ls.foldl (fun n l => n + l.length + k) 0
theorem r_join {sep : List Nat} {D : Addr} {ys : Array Value} {ls : List (List Nat)} (hl : hp.PlainList D ys) (hy : ∃ us : List Tok, us.length = ls.length ∧ ys.toList = List.zipWith (fun l u => Value.str (strL l) u) ls us) (hz : sumL ls sep.length ≤ 1000000)
    (k : ∀ u t, Q (.str (strL (joinL sep ls)) u) ⟨hp, g, d, t, os⟩) : wpAny (model pg w) A (call (.builtin "str.join") [.str (strL sep) t1, .ref D]) Q E ⟨hp, g, d, t, os⟩ := by
  obtain ⟨us, hlen, hys⟩ := hy
  refine SC.join (s := ⟨hp, g, d, t, os⟩) (l := List.zipWith (fun l u => (strL l, u)) ls us) (texts := ls.map strL) ?_ ?_ ?_ ?_
  · rw [show strValues (List.zipWith (fun l u => (strL l, u)) ls us) = ys.toList by rw [hys, strValues, List.map_zipWith]]
    rw [Array.toArray_toList]
    exact hl.isList
  · rw [List.map_zipWith]
    clear hys hz hl k
    induction ls generalizing us with
    | nil => cases us <;> rfl
    | cons x r ih => cases us with
      | nil => cases hlen
      | cons u us => simp only [List.zipWith_cons_cons, List.map_cons, List.cons.injEq]; exact ⟨trivial, ih us (by simpa using hlen)⟩
  · have e : ∀ (ls : List (List Nat)) (n : Nat), (ls.map strL).foldl (fun n l => n + l.length + (strL sep).length) n = ls.foldl (fun n l => n + l.length + sep.length) n := by
      intro ls
      induction ls with
      | nil => intro n; rfl
      | cons x r ih => intro n; rw [List.map_cons, List.foldl_cons, List.foldl_cons, ih, strL_len, strL_len]
    unfold JoinOk
    rw [List.foldl_toArray, e]
    unfold sumL at hz
    rw [Bool.not_eq_true']
    exact decide_eq_false (by rw [sizeLine_eq]; omega)
  · rw [join_L]; exact fun u t => k u t
end
theorem texts_of {ys : Array Value} {ls : List (List Nat)} (hs : ys.size = ls.length) (h : ∀ i < ls.length, ∃ u, ys.getD i .none = .str (strL (ls.getD i [])) u) : ∃ us : List Tok, us.length = ls.length ∧ ys.toList = List.zipWith (fun l u => Value.str (strL l) u) ls us := by
  have hf : ∃ f : Nat → Tok, ∀ i < ls.length, ys.getD i .none = .str (strL (ls.getD i [])) (f i) :=
    ⟨fun i => if q : i < ls.length then Classical.choose (h i q) else 0, fun i q => by simp only [dif_pos q]; exact Classical.choose_spec (h i q)⟩
  obtain ⟨f, hf⟩ := hf
  refine ⟨(List.range ls.length).map f, by simp, List.ext_getElem (by simp [hs]) fun i h1 h2 => ?_⟩
  have hi : i < ls.length := by simpa [hs] using h1
  have e := hf i hi
  have hi2 : i < ys.size := by rw [hs]; exact hi
  simp [Array.getD, hi2] at e
  simp [e, List.getElem?_eq_getElem hi]
theorem sumL_le {B k : Nat} : ∀ {ls : List (List Nat)}, (∀ l ∈ ls, l.length ≤ B) → sumL ls k ≤ ls.length * (B + k) := by
  have go : ∀ (ls : List (List Nat)) (n : Nat), (∀ l ∈ ls, l.length ≤ B) → ls.foldl (fun n l => n + l.length + k) n ≤ n + ls.length * (B + k) := by
    intro ls
    induction ls with
    | nil => intro n _; simp
    | cons x r ih =>
      intro n h
      have h1 := h x (List.mem_cons_self ..)
      have h2 := ih (n + x.length + k) fun l hl => h l (List.mem_cons_of_mem _ hl)
      rw [List.foldl_cons, List.length_cons, Nat.succ_mul]
      omega
  intro ls h
  have := go ls 0 h
  unfold sumL; omega
theorem join_single {α : Type} (f : α → Nat) : ∀ vs : List α, joinL [] (vs.map fun v => [f v]) = vs.map f
  | [] => rfl
  | [x] => rfl
  | x :: y :: r => by
    have ih := join_single f (y :: r)
    show [f x] ++ [] ++ joinL [] ((y :: r).map fun v => [f v]) = _
    rw [ih]; rfl
theorem fdiv_pow {a k : Nat} {z : Int} (h : z.toNat = k) : ((a : Nat) : Int).fdiv (2 ^ z.toNat) = ((a / 2 ^ k : Nat) : Int) := by
  rw [h, show (2 : Int) ^ k = ((2 ^ k : Nat) : Int) by simp, Int.fdiv_eq_ediv_of_nonneg _ (Int.natCast_nonneg _)]
  rfl
end
end
section
local macro_rules | `(tactic| lcg_off) => `(tactic| (intro $(Lean.mkIdent `h) _ $(Lean.mkIdent `k); (first | replace $(Lean.mkIdent `F) := WkT.kept $(Lean.mkIdent `F) $(Lean.mkIdent `k) | replace $(Lean.mkIdent `F) := Wk.kept $(Lean.mkIdent `F) $(Lean.mkIdent `k)); clear $(Lean.mkIdent `k)))
local macro_rules | `(tactic| lcg_src) => `(tactic| (intro $(Lean.mkIdent `h) _ _ $(Lean.mkIdent `k); (first | replace $(Lean.mkIdent `F) := WkT.kept $(Lean.mkIdent `F) $(Lean.mkIdent `k) | replace $(Lean.mkIdent `F) := Wk.kept $(Lean.mkIdent `F) $(Lean.mkIdent `k)); clear $(Lean.mkIdent `k)))
local macro_rules | `(tactic| x_close) => `(tactic| first
  | exact $(Lean.mkIdent `hk) _ _ Keeps.refl
  | exact $(Lean.mkIdent `hk) _ _ (keeps_of_mem (by assumption))
  | exact $(Lean.mkIdent `hk) _ _ _ Keeps.refl
  | exact $(Lean.mkIdent `hk) _ _ _ (keeps_of_mem (by assumption))
  | (apply $(Lean.mkIdent `hk); assumption)
  | (exact $(Lean.mkIdent `hk) _ _ _ (keeps_of_mem (by assumption)) (X.Mem.nw (by assumption) _ (List.mem_cons_self ..)).1 (X.Mem.nw (by assumption) _ (List.mem_cons_self ..)).2)
)
local macro_rules | `(tactic| tb_rel) => `(tactic| first
  | (with_reducible show wpAny _ _ (eval (Expr.Name _ _) _) _ _ _; first
      | with_reducible refine tL $(Lean.mkIdent `F) (by with_unfolding_all first | rfl | assumption) ?_ (by with_unfolding_all rfl) (by with_unfolding_all rfl) (by with_unfolding_all rfl) (by with_unfolding_all decide)
      | with_reducible refine tC $(Lean.mkIdent `F) (by with_unfolding_all first | rfl | assumption) ?_ (by with_unfolding_all rfl) (by with_unfolding_all rfl) (by with_unfolding_all rfl) (by with_unfolding_all rfl) (by with_unfolding_all decide)
      | with_reducible refine tGl $(Lean.mkIdent `X) $(Lean.mkIdent `F) (by with_unfolding_all rfl) ?_ (by with_unfolding_all rfl) (by with_unfolding_all rfl) (by with_unfolding_all rfl) (by with_unfolding_all rfl) (by with_unfolding_all decide)
      | with_reducible refine wL $(Lean.mkIdent `F) (by with_unfolding_all first | rfl | assumption) ?_ (by with_unfolding_all rfl) (by with_unfolding_all rfl) (by with_unfolding_all rfl) (by with_unfolding_all decide)
      | with_reducible refine wFr $(Lean.mkIdent `F) (by with_reducible assumption) (by with_unfolding_all first | rfl | assumption) ?_ (by with_unfolding_all rfl) (by with_unfolding_all rfl) (by with_unfolding_all rfl) (by with_unfolding_all decide) (by with_unfolding_all decide)
      | with_reducible refine wGl $(Lean.mkIdent `X) $(Lean.mkIdent `F) (by with_unfolding_all rfl) ?_ (by with_unfolding_all rfl) (by with_unfolding_all rfl) (by with_unfolding_all rfl) (by with_unfolding_all rfl) (by with_unfolding_all decide))
  | (with_reducible show wpAny _ _ (eval _ _) _ _ _; first
      | with_reducible refine e_int ?_
      | with_reducible refine e_str ?_
      | with_reducible refine wpAny_BinOp ?_
      | with_reducible refine wpAny_Compare1 ?_
      | with_reducible refine wpAny_UnaryOp ?_
      | with_reducible refine callN ?_
      | with_reducible refine sub_sl ?_
      | with_reducible refine sub_ix ?_
      | with_reducible refine s_ifx ?_
      | with_reducible refine Attribute_name ?_
      | with_reducible refine e_bool ?_
      | with_reducible refine e_none ?_)
  | (with_reducible show wpAny _ _ (execs _ _) _ _ _; first
      | with_reducible refine s_cons ?_
      | with_reducible refine s_nil ?_)
  | (with_reducible show wpAny _ _ (exec _ _) _ _ _; first
      | with_reducible refine wpAny_Assign_Name ?_ (by with_unfolding_all rfl)
      | with_reducible refine s_if ?_
      | with_reducible refine wpAny_Return_some ?_
      | with_reducible refine wpAny_AugAssign_Name ?_
      | with_reducible refine s_for ?_ (by intro _; with_unfolding_all rfl)
      | with_reducible refine wpAny_Assert_holds ?_)
  | (with_reducible show wpAny _ _ (storeName _ _ _) _ _ _; first
      | (with_reducible refine tstL $(Lean.mkIdent `F) ?_ (by with_unfolding_all rfl) (by with_unfolding_all rfl) (by with_unfolding_all rfl); clear $(Lean.mkIdent `F); intro _ _ $(Lean.mkIdent `F))
      | (with_reducible refine tstC $(Lean.mkIdent `F) ?_ (by with_unfolding_all rfl) (by with_unfolding_all rfl) (by with_unfolding_all rfl) (by with_unfolding_all rfl); clear $(Lean.mkIdent `F); intro _ _ $(Lean.mkIdent `F))
      | (with_reducible refine wstL $(Lean.mkIdent `F) ?_ (by with_unfolding_all rfl) (by with_unfolding_all rfl) (by with_unfolding_all rfl); clear $(Lean.mkIdent `F); intro _ _ $(Lean.mkIdent `F)))
  | (with_reducible show wpAny _ _ (loadName _ _) _ _ _; first
      | with_reducible refine tldL $(Lean.mkIdent `F) (by with_unfolding_all first | rfl | assumption) ?_ (by with_unfolding_all rfl) (by with_unfolding_all rfl) (by with_unfolding_all rfl)
      | with_reducible refine tldC $(Lean.mkIdent `F) (by with_unfolding_all first | rfl | assumption) ?_ (by with_unfolding_all rfl) (by with_unfolding_all rfl) (by with_unfolding_all rfl) (by with_unfolding_all rfl)
      | with_reducible refine wldL $(Lean.mkIdent `F) (by with_unfolding_all first | rfl | assumption) ?_ (by with_unfolding_all rfl) (by with_unfolding_all rfl) (by with_unfolding_all rfl))
  | (with_reducible show wpAny _ _ (spliced _) _ _ _; first
      | with_reducible refine wpAny_items_cons ?_ (by with_unfolding_all rfl)
      | with_reducible refine wpAny_items_nil ?_)
  | (with_reducible show wpAny _ _ (callWith _ _ _ _ _) _ _ _; first
      | with_reducible refine callB ?_ (by with_unfolding_all rfl) (by with_unfolding_all rfl)
      | with_reducible refine callT ?_ (by with_unfolding_all rfl) (by with_unfolding_all rfl)
      | with_reducible refine callKn $(Lean.mkIdent `X) (by kernel_rfl) ?_ (by with_unfolding_all rfl) (by with_unfolding_all rfl))
  | (with_reducible show wpAny _ _ (isTrue _ _ _) _ _ _; first
      | with_reducible refine wpAny_isTrue_Compare1 ?_
      | with_reducible refine wpAny_isTrue_Not ?_
      | with_reducible refine wpAny_isTrue_BoolOp ?_
      | with_reducible refine wpAny_isTrue_value ?_ (by with_unfolding_all rfl))
  | (with_reducible show wpAny _ _ (truthy _) _ _ _; first
      | with_reducible refine t_bool ?_
      | with_reducible refine t_int ?_)
  | (with_reducible show wpAny _ _ (compareOp _ _ _) _ _ _; first
      | with_reducible refine i_eq ?_
      | with_reducible refine i_ne ?_
      | with_reducible refine i_lt ?_
      | with_reducible refine i_gt ?_
      | with_reducible refine i_ge ?_
      | with_reducible refine is_nn ?_)
  | (with_reducible show wpAny _ _ (binaryOp _ _ _) _ _ _; first
      | (with_reducible refine n_and63 ?_; intro _ _)
      | (with_reducible refine n_and15 ?_; intro _ _)
      | (with_reducible refine n_and3 ?_; intro _ _)
      | (with_reducible refine n_or ?_; intro _ _)
      | (with_reducible refine n_shr2 ?_; intro _ _)
      | (with_reducible refine n_shr4 ?_; intro _ _)
      | (with_reducible refine n_shr6 ?_; intro _ _)
      | (with_reducible refine n_shl2 (by omega) ?_; intro _ _)
      | (with_reducible refine n_shl4 (by omega) ?_; intro _ _)
      | (with_reducible refine n_shl6 (by omega) ?_; intro _ _)
      | (with_reducible refine i_add ?_; intro _ _)
      | (with_reducible refine i_sub ?_; intro _ _)
      | (with_reducible refine i_and ?_; intro _ _)
      | (with_reducible refine i_or ?_; intro _ _)
      | (with_reducible refine i_xor ?_; intro _ _))
  | (with_reducible show wpAny _ _ (inplaceOp _ _ _) _ _ _; first
      | (with_reducible refine i_iand ?_; intro _ _)
      | (with_reducible refine i_ior ?_; intro _ _)
      | (with_reducible refine i_iadd ?_; intro _ _))
  | (with_reducible show wpAny _ _ (unaryOp _ _) _ _ _; first
      | (with_reducible refine i_neg ?_; intro _ _)
      | (with_reducible refine i_inv ?_; intro _ _))
  | (with_reducible show wpAny _ _ (evalPart _ _) _ _ _; first
      | with_reducible refine part0 ?_
      | with_reducible refine part1 ?_)
  | with_reducible refine then_next ?_
  | with_reducible refine then_ret ?_
  | with_reducible refine br_t ?_
  | with_reducible refine br_f ?_
  | with_reducible refine br_nt ?_
  | with_reducible refine br_nf ?_
  | with_reducible refine And.intro (fun _ => WkT.top $(Lean.mkIdent `F) $(Lean.mkIdent `X)) ?_
  | with_reducible refine And.intro (fun _ => Wk.top $(Lean.mkIdent `F) $(Lean.mkIdent `X)) ?_
  | with_reducible refine retQ ?_
  | with_reducible refine brE_t ?_
  | with_reducible refine brE_f ?_)
section
local macro_rules | `(tactic| tb_rel) => `(tactic| (with_reducible show wpAny _ _ (eval (Expr.Name _ _) _) _ _ _; with_reducible refine wCe $(Lean.mkIdent `F) (by with_unfolding_all rfl) (by with_unfolding_all rfl) (by with_unfolding_all rfl) (by with_unfolding_all decide) (by with_reducible assumption) (by with_reducible assumption) ?_))
def lawCnt (n : Nat) : Nat := (8 * n + 5) / 6
def lawVal (big : Bool) (b : Array UInt8) : Nat := if big then leN b.toList.reverse * 2 ^ (6 * lawCnt b.size - 8 * b.size) else leN b.toList
def lawDig (big : Bool) (b : Array UInt8) : List Nat := (List.range (lawCnt b.size)).map fun i => lawVal big b / 2 ^ (6 * (if big then lawCnt b.size - 1 - i else i)) % 64
theorem small1 {n : Nat} (h : n ≤ 11) : Builtin.Range.small 0 (n : Int) 1 = true := (by decide : ∀ c : Fin 12, Builtin.Range.small 0 ((c.val : Nat) : Int) 1 = true) ⟨n, by omega⟩
section
variable {w : World} {A : Around} {n : Nat} {E : Value → Shared → Prop} {Q : Value → Shared → Prop} {hp h : Heap} {g : Array GenState} {d : Drawn} {t : Nat} {os : OsState} {chars b : Array UInt8} {big : Bool} {t1 t2 t3 t4 : Tok} {vs : List Nat}
theorem signs_ok (hb : b.size ≤ 8) (hA : AOk A 10) (X : Top w hp) (T : TabOk hp) (C : Chs chars)
   (hQ : ∀ h' t' u, KeepsG hp h' → TabOk h' → Q (.str (strL (wordL chars (lawDig big b))) u) ⟨h', g, d, t', os⟩) :
   wpAny (model pg w) A (call (.ref 303) [.bytes b t1, .str (strL (natsOf chars)) t2, .bool big]) Q E ⟨hp, g, d, t, os⟩ := by
  refine wpAny_call (call_fnC (n := 8) (binds := [("octets", .bytes b t1), ("signs", .str (strL (natsOf chars)) t2), ("big", .bool big)]) hA X T fn303 (by rfl) (by rfl) (by rfl) (by decide) (by rfl) ?_)
  intro h₁ t₁ L F hA'
  replace X := X.strike
  refine s_cons ?_
  repeat tb_rel
  refine up hA' (x_len_bytes (F.top X) (by omega) ?_)
  lcg_src
  repeat tb_rel
  refine i_mul (by decide) (by omega) ?_
  intro _ _
  repeat tb_rel
  refine i_div (by decide) (by decide) ?_
  intro _ _
  rw [show ((8 : Int) * (b.size : Int) + 5).fdiv 6 = ((lawCnt b.size : Nat) : Int) by unfold lawCnt; rw [Int.fdiv_eq_ediv_of_nonneg _ (by decide)]; omega]
  have hcnt : lawCnt b.size ≤ 11 := by unfold lawCnt; omega
  have hns : (natsOf chars).length = 64 := by unfold natsOf; rw [List.length_map, Array.length_toList, C.size]
  have hcb : 8 * b.size ≤ 6 * lawCnt b.size := by unfold lawCnt; omega
  repeat tb_rel
  cases big with
  | true =>
    repeat tb_rel
    refine MethodCall_ ?_ (by rfl)
    repeat tb_rel
    refine gm_fb (F.top X) ?_
    intro x h2 t2 k2 hx
    replace F := F.kept k2
    refine cw_fb ?_
    repeat tb_rel
    refine ⟨hx, ?_⟩
    refine fb_big hx hb ?_
    intro _ _
    clear hx k2
    repeat tb_rel
    refine i_mul (by decide) (by omega) ?_
    intro _ _
    repeat tb_rel
    refine up hA' (x_len_bytes (F.top X) (by omega) ?_)
    lcg_src
    repeat tb_rel
    refine i_mul (by decide) (by omega) ?_
    intro _ _
    repeat tb_rel
    have hlt := leN_lt b.toList.reverse
    have hle : 256 ^ b.toList.reverse.length ≤ 256 ^ 8 := Nat.pow_le_pow_right (by decide) (by rw [List.length_reverse, Array.length_toList]; exact hb)
    refine i_shl (by omega) (by omega) (by have : (256 : Nat) ^ 8 ≤ 2 ^ 128 := by decide
                                           omega) ?_
    intro _ _
    rw [show ((leN b.toList.reverse : Nat) : Int) * 2 ^ (6 * ((lawCnt b.size : Nat) : Int) - 8 * (b.size : Int)).toNat = ((lawVal true b : Nat) : Int) by
      rw [show (6 * ((lawCnt b.size : Nat) : Int) - 8 * (b.size : Int)).toNat = 6 * lawCnt b.size - 8 * b.size by omega]; simp [lawVal]]
    repeat tb_rel
    refine MethodCall_ ?_ (by rfl)
    repeat tb_rel
    refine GM.join ?_
    repeat tb_rel
    refine lc_eval (by rfl) rfl (by decide) ?_ (by intro _; rfl)
    repeat tb_rel
    refine i_range1 ?_
    intro h3 t3 r u1 u3 k3 hr nr
    replace F := F.kept k3
    clear nr k3
    refine pyIter_rng hr (small1 hcnt) ?_
    intro h4 I k4 hI nI
    have oI := F.ownNew nI
    replace F := (F.kept k4).mark
    obtain ⟨ocount, hocount, hdcount⟩ : ∃ o, h4.get? _ = some o ∧ o.data = .cell (some (.int ((lawCnt b.size : Nat) : Int) _)) := F.C.cell "count" _ (by rfl)
    obtain ⟨osigns, hosigns, hdsigns⟩ : ∃ o, h4.get? _ = some o ∧ o.data = .cell (some (.str (strL (natsOf chars)) _)) := F.C.cell "signs" _ (by rfl)
    obtain ⟨ovalue, hovalue, hdvalue⟩ : ∃ o, h4.get? _ = some o ∧ o.data = .cell (some (.int ((lawVal true b : Nat) : Int) _)) := F.C.cell "value" _ (by rfl)
    refine lc_val (El := fun i y o => o = none ∧ ∃ u, y = .str (strL [cl chars (lawVal true b / 2 ^ (6 * (lawCnt b.size - 1 - i)) % 64)]) u) (nw := [(L + 1, osigns), (L + 1 + 1, ocount), (L + 1 + 1 + 1, ovalue)]) (lc_src1 _ (It.range I 0 1 (lawCnt b.size)) (hA'.less (by omega)) (fun A E Q s st hq => pyIter_ri st hq) (by intro _; rfl) ?_ ?_ ?_) (by omega) (by decide) rfl F ?_ ?_ ?_ (by simp) ?_ ?_
    · intro p hp
      simp only [List.mem_cons, List.not_mem_nil, or_false] at hp
      rcases hp with rfl | rfl | rfl
      · exact F.cellNw (n := "signs") oI (by rfl)
      · exact F.cellNw (n := "count") oI (by rfl)
      · exact F.cellNw (n := "value") oI (by rfl)
    · intro a ha
      rw [List.mem_singleton.mp ha]; exact oI.1
    · intro C2 i v h5 t5 m5 hC2 hi hv F
      obtain ⟨u, rfl⟩ := hv
      have msigns : (L + 1, osigns) ∈ [(L + 1, osigns), (L + 1 + 1, ocount), (L + 1 + 1 + 1, ovalue)] := List.mem_cons_self ..
      have mcount : (L + 1 + 1, ocount) ∈ [(L + 1, osigns), (L + 1 + 1, ocount), (L + 1 + 1 + 1, ovalue)] := List.mem_cons_of_mem _ (List.mem_cons_self ..)
      have mvalue : (L + 1 + 1 + 1, ovalue) ∈ [(L + 1, osigns), (L + 1 + 1, ocount), (L + 1 + 1 + 1, ovalue)] := List.mem_cons_of_mem _ (List.mem_cons_of_mem _ (List.mem_cons_self ..))
      refine wpAny_assign_Name ?_
      repeat tb_rel
      refine i_mul (by decide) (by omega) ?_
      intro _ _
      repeat tb_rel
      refine i_shr (by omega) ?_
      intro _ _
      rw [fdiv_pow (k := 6 * (lawCnt b.size - 1 - i)) (by omega)]
      repeat tb_rel
      have hlt6 : lawVal true b / 2 ^ (6 * (lawCnt b.size - 1 - i)) % 64 < 64 := Nat.mod_lt _ (by decide)
      refine tl_Si (kk := lawVal true b / 2 ^ (6 * (lawCnt b.size - 1 - i)) % 64) (by rw [hns]; exact hlt6) (by omega) (by rw [hns]; omega) (by rw [hns]; exact seqN hlt6) (by rw [hns]; omega) ?_ (by with_unfolding_all rfl) (by intro _; with_unfolding_all rfl)
      intro _ _
      rw [List.getD_eq_getElem?_getD, natsOf_at chars (by rw [C.size]; exact hlt6), Option.getD_some]
      exact ⟨_, _, _, rfl, F, none, ⟨rfl, _, rfl⟩, fun ob z => by cases z⟩
    · intro a ha
      rw [List.mem_singleton.mp ha]; exact ⟨_, hI⟩
    · show IsRangeIter h4 I _ _ 1
      unfold IsRangeIter
      rw [hI, rangeSize_one]
      congr 5
      rw [show (if (0 : Int) < ((lawCnt b.size : Nat) : Int) then ((lawCnt b.size : Nat) : Int) - 0 else 0) = ((lawCnt b.size : Nat) : Int) - ((0 : Nat) : Int) by split <;> omega]
    · intro a ha
      rw [List.mem_singleton.mp ha]; exact oI
    · intro p hp
      simp only [List.mem_cons, List.not_mem_nil, or_false] at hp
      rcases hp with rfl | rfl | rfl
      · exact ⟨hosigns, (F.cellNw (n := "signs") oI (by rfl)).1⟩
      · exact ⟨hocount, (F.cellNw (n := "count") oI (by rfl)).1⟩
      · exact ⟨hovalue, (F.cellNw (n := "value") oI (by rfl)).1⟩
    · intro D h6 t6 ys nD hD F oD hsz hel
      repeat tb_rel
      refine r_join (sep := []) (ls := (lawDig true b).map fun v => [cl chars v]) hD (texts_of (by rw [hsz]; simp [lawDig]) fun i hi => ?_) ?_ ?_
      · simp only [lawDig, List.length_map, List.length_range] at hi
        obtain ⟨o, ⟨_, u, e⟩, _⟩ := hel i hi
        refine ⟨u, e.trans ?_⟩
        congr 2
        simp [lawDig, hi]
      · refine Nat.le_trans (sumL_le (B := 1) (by simp)) (by simp [lawDig]; omega)
      · intro u t
        rw [join_single]
        repeat tb_rel
        exact hQ _ _ _ F.oldG F.T
  | false =>
    repeat tb_rel
    refine MethodCall_ ?_ (by rfl)
    repeat tb_rel
    refine gm_fb (F.top X) ?_
    intro x h2 t2 k2 hx
    replace F := F.kept k2
    refine cw_fb ?_
    repeat tb_rel
    refine ⟨hx, ?_⟩
    refine fb_little hx hb ?_
    intro _ _
    clear hx k2
    repeat tb_rel
    refine MethodCall_ ?_ (by rfl)
    repeat tb_rel
    refine GM.join ?_
    repeat tb_rel
    refine lc_eval (by rfl) rfl (by decide) ?_ (by intro _; rfl)
    repeat tb_rel
    refine i_range1 ?_
    intro h3 t3 r u1 u3 k3 hr nr
    replace F := F.kept k3
    clear nr k3
    refine pyIter_rng hr (small1 hcnt) ?_
    intro h4 I k4 hI nI
    have oI := F.ownNew nI
    replace F := (F.kept k4).mark
    obtain ⟨osigns, hosigns, hdsigns⟩ : ∃ o, h4.get? _ = some o ∧ o.data = .cell (some (.str (strL (natsOf chars)) _)) := F.C.cell "signs" _ (by rfl)
    obtain ⟨ovalue, hovalue, hdvalue⟩ : ∃ o, h4.get? _ = some o ∧ o.data = .cell (some (.int ((lawVal false b : Nat) : Int) _)) := F.C.cell "value" _ (by rfl)
    refine lc_val (El := fun i y o => o = none ∧ ∃ u, y = .str (strL [cl chars (lawVal false b / 2 ^ (6 * (i)) % 64)]) u) (nw := [(L + 1, osigns), (L + 1 + 1 + 1, ovalue)]) (lc_src1 _ (It.range I 0 1 (lawCnt b.size)) (hA'.less (by omega)) (fun A E Q s st hq => pyIter_ri st hq) (by intro _; rfl) ?_ ?_ ?_) (by omega) (by decide) rfl F ?_ ?_ ?_ (by simp) ?_ ?_
    · intro p hp
      simp only [List.mem_cons, List.not_mem_nil, or_false] at hp
      rcases hp with rfl | rfl
      · exact F.cellNw (n := "signs") oI (by rfl)
      · exact F.cellNw (n := "value") oI (by rfl)
    · intro a ha
      rw [List.mem_singleton.mp ha]; exact oI.1
    · intro C2 i v h5 t5 m5 hC2 hi hv F
      obtain ⟨u, rfl⟩ := hv
      have msigns : (L + 1, osigns) ∈ [(L + 1, osigns), (L + 1 + 1 + 1, ovalue)] := List.mem_cons_self ..
      have mvalue : (L + 1 + 1 + 1, ovalue) ∈ [(L + 1, osigns), (L + 1 + 1 + 1, ovalue)] := List.mem_cons_of_mem _ (List.mem_cons_self ..)
      refine wpAny_assign_Name ?_
      repeat tb_rel
      refine i_mul (by decide) (by omega) ?_
      intro _ _
      repeat tb_rel
      refine i_shr (by omega) ?_
      intro _ _
      rw [fdiv_pow (k := 6 * (i)) (by omega)]
      repeat tb_rel
      have hlt6 : lawVal false b / 2 ^ (6 * (i)) % 64 < 64 := Nat.mod_lt _ (by decide)
      refine tl_Si (kk := lawVal false b / 2 ^ (6 * (i)) % 64) (by rw [hns]; exact hlt6) (by omega) (by rw [hns]; omega) (by rw [hns]; exact seqN hlt6) (by rw [hns]; omega) ?_ (by with_unfolding_all rfl) (by intro _; with_unfolding_all rfl)
      intro _ _
      rw [List.getD_eq_getElem?_getD, natsOf_at chars (by rw [C.size]; exact hlt6), Option.getD_some]
      exact ⟨_, _, _, rfl, F, none, ⟨rfl, _, rfl⟩, fun ob z => by cases z⟩
    · intro a ha
      rw [List.mem_singleton.mp ha]; exact ⟨_, hI⟩
    · show IsRangeIter h4 I _ _ 1
      unfold IsRangeIter
      rw [hI, rangeSize_one]
      congr 5
      rw [show (if (0 : Int) < ((lawCnt b.size : Nat) : Int) then ((lawCnt b.size : Nat) : Int) - 0 else 0) = ((lawCnt b.size : Nat) : Int) - ((0 : Nat) : Int) by split <;> omega]
    · intro a ha
      rw [List.mem_singleton.mp ha]; exact oI
    · intro p hp
      simp only [List.mem_cons, List.not_mem_nil, or_false] at hp
      rcases hp with rfl | rfl
      · exact ⟨hosigns, (F.cellNw (n := "signs") oI (by rfl)).1⟩
      · exact ⟨hovalue, (F.cellNw (n := "value") oI (by rfl)).1⟩
    · intro D h6 t6 ys nD hD F oD hsz hel
      repeat tb_rel
      refine r_join (sep := []) (ls := (lawDig false b).map fun v => [cl chars v]) hD (texts_of (by rw [hsz]; simp [lawDig]) fun i hi => ?_) ?_ ?_
      · simp only [lawDig, List.length_map, List.length_range] at hi
        obtain ⟨o, ⟨_, u, e⟩, _⟩ := hel i hi
        refine ⟨u, e.trans ?_⟩
        congr 2
        simp [lawDig, hi]
      · refine Nat.le_trans (sumL_le (B := 1) (by simp)) (by simp [lawDig]; omega)
      · intro u t
        rw [join_single]
        repeat tb_rel
        exact hQ _ _ _ F.oldG F.T
end
end
end
section
section
theorem strL_toList (l : List Nat) : (strL l).cps.toList = l := by simp [strL]
theorem strL_inj {a b : List Nat} (h : strL a = strL b) : a = b := by
  have := congrArg (fun s : Str => s.cps.toList) h
  simpa [strL_toList] using this
theorem strL_of (s : Str) : strL s.cps.toList = s := by
  obtain ⟨c⟩ := s
  simp [strL]
theorem joinL_inj {c : Nat} : ∀ ps qs : List (List Nat), ps ≠ [] → qs ≠ [] → (∀ p ∈ ps, c ∉ p) → (∀ q ∈ qs, c ∉ q) → joinL [c] ps = joinL [c] qs → ps = qs := by
  have cut : ∀ (a b u v : List Nat), c ∉ a → c ∉ b → a ++ c :: u = b ++ c :: v → a = b ∧ u = v := by
    intro a
    induction a with
    | nil =>
      intro b u v _ hb e
      cases b with
      | nil => exact ⟨rfl, by simpa using e⟩
      | cons y b => simp only [List.nil_append, List.cons_append, List.cons.injEq] at e; exact absurd (e.1 ▸ List.mem_cons_self ..) hb
    | cons x a ih =>
      intro b u v ha hb e
      cases b with
      | nil => simp only [List.nil_append, List.cons_append, List.cons.injEq] at e; exact absurd (e.1 ▸ List.mem_cons_self ..) ha
      | cons y b =>
        simp only [List.cons_append, List.cons.injEq] at e
        obtain ⟨h1, h2⟩ := ih b u v (fun q => ha (List.mem_cons_of_mem _ q)) (fun q => hb (List.mem_cons_of_mem _ q)) e.2
        exact ⟨by rw [e.1, h1], h2⟩
  have cons2 : ∀ (x y : List Nat) (r : List (List Nat)), joinL [c] (x :: y :: r) = x ++ c :: joinL [c] (y :: r) := fun x y r => by
    show x ++ [c] ++ _ = _
    simp
  intro ps
  induction ps with
  | nil => intro qs h; exact absurd rfl h
  | cons p ps ih =>
    intro qs _ hq hp hqs e
    cases qs with
    | nil => exact absurd rfl hq
    | cons q qs =>
      cases ps with
      | nil =>
        cases qs with
        | nil => have : p = q := e; rw [this]
        | cons q2 qs =>
          rw [cons2] at e
          have e' : p = q ++ c :: joinL [c] (q2 :: qs) := e
          exact absurd (e' ▸ List.mem_append_right _ (List.mem_cons_self ..)) (hp p (List.mem_cons_self ..))
      | cons p2 ps =>
        cases qs with
        | nil =>
          rw [cons2] at e
          have e' : p ++ c :: joinL [c] (p2 :: ps) = q := e
          exact absurd (e' ▸ List.mem_append_right _ (List.mem_cons_self ..)) (hqs q (List.mem_cons_self ..))
        | cons q2 qs =>
          rw [cons2, cons2] at e
          obtain ⟨h1, h2⟩ := cut _ _ _ _ (hp p (List.mem_cons_self ..)) (hqs q (List.mem_cons_self ..)) e
          rw [h1, ih (q2 :: qs) (by simp) (by simp) (fun x hx => hp x (List.mem_cons_of_mem _ hx)) (fun x hx => hqs x (List.mem_cons_of_mem _ hx)) h2]
theorem split_ne (x y : Str) : PySem.Txt.split x y ≠ [] := by
  unfold PySem.Txt.split
  split
  · simp
  · split
    · simp
    · rw [StrLaws.partsBetween_eq]
      obtain ⟨p, r, e⟩ := StrLaws.partsFrom_ne x y.length 0 (Builtin.Str.occurrences x y 0 x.length (x.length + 1))
      rw [e]; simp
theorem split_L {c : Nat} {ls : List (List Nat)} (hne : ls ≠ []) (hf : ∀ l ∈ ls, c ∉ l) : PySem.Txt.split (strL (joinL [c] ls)) (strL [c]) = ls.map strL := by
  have h1 := StrLaws.join_split (strL (joinL [c] ls)) (strL [c])
  have h2 := StrLaws.split_free (strL (joinL [c] ls)) c
  have h3 := split_ne (strL (joinL [c] ls)) (strL [c])
  rw [show (⟨#[c]⟩ : Str) = strL [c] from rfl] at h2
  generalize PySem.Txt.split (strL (joinL [c] ls)) (strL [c]) = ps at h1 h2 h3 ⊢
  have hps : ps = (ps.map fun p => p.cps.toList).map strL := by rw [List.map_map]; simp [Function.comp_def, strL_of]
  rw [hps]
  congr 1
  refine joinL_inj (c := c) _ _ (by simpa using h3) hne (fun p hp => ?_) hf ?_
  · obtain ⟨q, hq, rfl⟩ := List.mem_map.mp hp
    exact h2 q hq
  · refine strL_inj ?_
    rw [← join_L, ← hps, ← h1]
    exact StrLaws.glued_eq_join _ _
theorem strip_L {p m q : List Nat} (hp : ∀ c ∈ p, Unicode.isSpace c = true) (hq : ∀ c ∈ q, Unicode.isSpace c = true) (hm : m ≠ []) (h1 : ∀ c, m.head? = some c → Unicode.isSpace c = false) (h2 : ∀ c, m.getLast? = some c → Unicode.isSpace c = false) :
    PySem.Txt.strip (strL (p ++ m ++ q)) = strL m := by
  have hl : (strL (p ++ m ++ q)).length = p.length + m.length + q.length := by rw [strL_len]; simp; omega
  have lo : stripLo Unicode.isSpace true (strL (p ++ m ++ q)) = p.length := by
    unfold stripLo
    rw [if_pos rfl, strL_toList, List.append_assoc, List.takeWhile_append_of_pos hp]
    cases m with
    | nil => exact absurd rfl hm
    | cons x m => simp [List.takeWhile_cons, h1 x rfl]
  have hi : stripHi Unicode.isSpace true (strL (p ++ m ++ q)) p.length = p.length + m.length := by
    unfold stripHi
    rw [if_pos rfl, strL_toList, hl, List.append_assoc, List.drop_left, List.reverse_append, List.takeWhile_append_of_pos (fun a ha => hq a (List.mem_reverse.mp ha))]
    have e : m.reverse.takeWhile Unicode.isSpace = [] := by
      cases hr : m.reverse with
      | nil => rfl
      | cons x r =>
        have := h2 x (by rw [List.getLast?_eq_head?_reverse, hr]; rfl)
        simp [List.takeWhile_cons, this]
    rw [e]
    simp
  unfold PySem.Txt.strip
  rw [PyProof.Rows.stripBy_eq, lo, hi]
  rw [← strL_of (Builtin.Str.strSub _ _ _), StrLaws.strSub_toList, strL_toList]
  congr 1
  rw [List.append_assoc, List.drop_left, show p.length + m.length - p.length = m.length by omega, List.take_left]
theorem ends_L {s : List Nat} {c : Nat} : PySem.Txt.endswith (strL s) (strL [c]) = (s.getLast? == some c) := by
  unfold PySem.Txt.endswith
  rw [StrLaws.subAt_eq, strL_toList, strL_toList, strL_len, strL_len]
  rcases List.eq_nil_or_concat s with rfl | ⟨l, y, rfl⟩
  · rfl
  · simp [List.drop_append]
theorem strip_nil : PySem.Txt.strip (strL []) = strL [] := by decide +kernel
end
end
section
local macro_rules | `(tactic| lcg_off) => `(tactic| (intro $(Lean.mkIdent `h) _ $(Lean.mkIdent `k); (first | replace $(Lean.mkIdent `F) := WkT.kept $(Lean.mkIdent `F) $(Lean.mkIdent `k) | replace $(Lean.mkIdent `F) := Wk.kept $(Lean.mkIdent `F) $(Lean.mkIdent `k)); clear $(Lean.mkIdent `k)))
local macro_rules | `(tactic| lcg_src) => `(tactic| (intro $(Lean.mkIdent `h) _ _ $(Lean.mkIdent `k); (first | replace $(Lean.mkIdent `F) := WkT.kept $(Lean.mkIdent `F) $(Lean.mkIdent `k) | replace $(Lean.mkIdent `F) := Wk.kept $(Lean.mkIdent `F) $(Lean.mkIdent `k)); clear $(Lean.mkIdent `k)))
local macro_rules | `(tactic| x_close) => `(tactic| first
  | exact $(Lean.mkIdent `hk) _ _ Keeps.refl
  | exact $(Lean.mkIdent `hk) _ _ (keeps_of_mem (by assumption))
  | exact $(Lean.mkIdent `hk) _ _ _ Keeps.refl
  | exact $(Lean.mkIdent `hk) _ _ _ (keeps_of_mem (by assumption))
  | (apply $(Lean.mkIdent `hk); assumption)
  | (exact $(Lean.mkIdent `hk) _ _ _ (keeps_of_mem (by assumption)) (X.Mem.nw (by assumption) _ (List.mem_cons_self ..)).1 (X.Mem.nw (by assumption) _ (List.mem_cons_self ..)).2)
)
local macro_rules | `(tactic| tb_rel) => `(tactic| first
  | (with_reducible show wpAny _ _ (eval (Expr.Name _ _) _) _ _ _; first
      | with_reducible refine tL $(Lean.mkIdent `F) (by with_unfolding_all first | rfl | assumption) ?_ (by with_unfolding_all rfl) (by with_unfolding_all rfl) (by with_unfolding_all rfl) (by with_unfolding_all decide)
      | with_reducible refine tC $(Lean.mkIdent `F) (by with_unfolding_all first | rfl | assumption) ?_ (by with_unfolding_all rfl) (by with_unfolding_all rfl) (by with_unfolding_all rfl) (by with_unfolding_all rfl) (by with_unfolding_all decide)
      | with_reducible refine tGl $(Lean.mkIdent `X) $(Lean.mkIdent `F) (by with_unfolding_all rfl) ?_ (by with_unfolding_all rfl) (by with_unfolding_all rfl) (by with_unfolding_all rfl) (by with_unfolding_all rfl) (by with_unfolding_all decide)
      | with_reducible refine wL $(Lean.mkIdent `F) (by with_unfolding_all first | rfl | assumption) ?_ (by with_unfolding_all rfl) (by with_unfolding_all rfl) (by with_unfolding_all rfl) (by with_unfolding_all decide)
      | with_reducible refine wFr $(Lean.mkIdent `F) (by with_reducible assumption) (by with_unfolding_all first | rfl | assumption) ?_ (by with_unfolding_all rfl) (by with_unfolding_all rfl) (by with_unfolding_all rfl) (by with_unfolding_all decide) (by with_unfolding_all decide)
      | with_reducible refine wGl $(Lean.mkIdent `X) $(Lean.mkIdent `F) (by with_unfolding_all rfl) ?_ (by with_unfolding_all rfl) (by with_unfolding_all rfl) (by with_unfolding_all rfl) (by with_unfolding_all rfl) (by with_unfolding_all decide))
  | (with_reducible show wpAny _ _ (eval _ _) _ _ _; first
      | with_reducible refine e_int ?_
      | with_reducible refine e_str ?_
      | with_reducible refine wpAny_BinOp ?_
      | with_reducible refine wpAny_Compare1 ?_
      | with_reducible refine wpAny_UnaryOp ?_
      | with_reducible refine callN ?_
      | with_reducible refine sub_sl ?_
      | with_reducible refine sub_ix ?_
      | with_reducible refine s_ifx ?_
      | with_reducible refine Attribute_name ?_
      | with_reducible refine e_bool ?_
      | with_reducible refine e_none ?_)
  | (with_reducible show wpAny _ _ (execs _ _) _ _ _; first
      | with_reducible refine s_cons ?_
      | with_reducible refine s_nil ?_)
  | (with_reducible show wpAny _ _ (exec _ _) _ _ _; first
      | with_reducible refine wpAny_Assign_Name ?_ (by with_unfolding_all rfl)
      | with_reducible refine s_if ?_
      | with_reducible refine wpAny_Return_some ?_
      | with_reducible refine wpAny_AugAssign_Name ?_
      | with_reducible refine s_for ?_ (by intro _; with_unfolding_all rfl)
      | with_reducible refine wpAny_Assert_holds ?_)
  | (with_reducible show wpAny _ _ (storeName _ _ _) _ _ _; first
      | (with_reducible refine tstL $(Lean.mkIdent `F) ?_ (by with_unfolding_all rfl) (by with_unfolding_all rfl) (by with_unfolding_all rfl); clear $(Lean.mkIdent `F); intro _ _ $(Lean.mkIdent `F))
      | (with_reducible refine tstC $(Lean.mkIdent `F) ?_ (by with_unfolding_all rfl) (by with_unfolding_all rfl) (by with_unfolding_all rfl) (by with_unfolding_all rfl); clear $(Lean.mkIdent `F); intro _ _ $(Lean.mkIdent `F))
      | (with_reducible refine wstL $(Lean.mkIdent `F) ?_ (by with_unfolding_all rfl) (by with_unfolding_all rfl) (by with_unfolding_all rfl); clear $(Lean.mkIdent `F); intro _ _ $(Lean.mkIdent `F)))
  | (with_reducible show wpAny _ _ (loadName _ _) _ _ _; first
      | with_reducible refine tldL $(Lean.mkIdent `F) (by with_unfolding_all first | rfl | assumption) ?_ (by with_unfolding_all rfl) (by with_unfolding_all rfl) (by with_unfolding_all rfl)
      | with_reducible refine tldC $(Lean.mkIdent `F) (by with_unfolding_all first | rfl | assumption) ?_ (by with_unfolding_all rfl) (by with_unfolding_all rfl) (by with_unfolding_all rfl) (by with_unfolding_all rfl)
      | with_reducible refine wldL $(Lean.mkIdent `F) (by with_unfolding_all first | rfl | assumption) ?_ (by with_unfolding_all rfl) (by with_unfolding_all rfl) (by with_unfolding_all rfl))
  | (with_reducible show wpAny _ _ (spliced _) _ _ _; first
      | with_reducible refine wpAny_items_cons ?_ (by with_unfolding_all rfl)
      | with_reducible refine wpAny_items_nil ?_)
  | (with_reducible show wpAny _ _ (callWith _ _ _ _ _) _ _ _; first
      | with_reducible refine callB ?_ (by with_unfolding_all rfl) (by with_unfolding_all rfl)
      | with_reducible refine callT ?_ (by with_unfolding_all rfl) (by with_unfolding_all rfl)
      | with_reducible refine callKn $(Lean.mkIdent `X) (by kernel_rfl) ?_ (by with_unfolding_all rfl) (by with_unfolding_all rfl))
  | (with_reducible show wpAny _ _ (isTrue _ _ _) _ _ _; first
      | with_reducible refine wpAny_isTrue_Compare1 ?_
      | with_reducible refine wpAny_isTrue_Not ?_
      | with_reducible refine wpAny_isTrue_BoolOp ?_
      | with_reducible refine wpAny_isTrue_value ?_ (by with_unfolding_all rfl))
  | (with_reducible show wpAny _ _ (truthy _) _ _ _; first
      | with_reducible refine t_bool ?_
      | with_reducible refine t_int ?_)
  | (with_reducible show wpAny _ _ (compareOp _ _ _) _ _ _; first
      | with_reducible refine i_eq ?_
      | with_reducible refine i_ne ?_
      | with_reducible refine i_lt ?_
      | with_reducible refine i_gt ?_
      | with_reducible refine i_ge ?_
      | with_reducible refine is_nn ?_)
  | (with_reducible show wpAny _ _ (binaryOp _ _ _) _ _ _; first
      | (with_reducible refine n_and63 ?_; intro _ _)
      | (with_reducible refine n_and15 ?_; intro _ _)
      | (with_reducible refine n_and3 ?_; intro _ _)
      | (with_reducible refine n_or ?_; intro _ _)
      | (with_reducible refine n_shr2 ?_; intro _ _)
      | (with_reducible refine n_shr4 ?_; intro _ _)
      | (with_reducible refine n_shr6 ?_; intro _ _)
      | (with_reducible refine n_shl2 (by omega) ?_; intro _ _)
      | (with_reducible refine n_shl4 (by omega) ?_; intro _ _)
      | (with_reducible refine n_shl6 (by omega) ?_; intro _ _)
      | (with_reducible refine i_add ?_; intro _ _)
      | (with_reducible refine i_sub ?_; intro _ _)
      | (with_reducible refine i_and ?_; intro _ _)
      | (with_reducible refine i_or ?_; intro _ _)
      | (with_reducible refine i_xor ?_; intro _ _))
  | (with_reducible show wpAny _ _ (inplaceOp _ _ _) _ _ _; first
      | (with_reducible refine i_iand ?_; intro _ _)
      | (with_reducible refine i_ior ?_; intro _ _)
      | (with_reducible refine i_iadd ?_; intro _ _))
  | (with_reducible show wpAny _ _ (unaryOp _ _) _ _ _; first
      | (with_reducible refine i_neg ?_; intro _ _)
      | (with_reducible refine i_inv ?_; intro _ _))
  | (with_reducible show wpAny _ _ (evalPart _ _) _ _ _; first
      | with_reducible refine part0 ?_
      | with_reducible refine part1 ?_)
  | with_reducible refine then_next ?_
  | with_reducible refine then_ret ?_
  | with_reducible refine br_t ?_
  | with_reducible refine br_f ?_
  | with_reducible refine br_nt ?_
  | with_reducible refine br_nf ?_
  | with_reducible refine And.intro (fun _ => WkT.top $(Lean.mkIdent `F) $(Lean.mkIdent `X)) ?_
  | with_reducible refine And.intro (fun _ => Wk.top $(Lean.mkIdent `F) $(Lean.mkIdent `X)) ?_
  | with_reducible refine retQ ?_
  | with_reducible refine brE_t ?_
  | with_reducible refine brE_f ?_)
section
/-- what splitcomma makes of a text, told in pieces -/
structure SplOk (s : List Nat) (out : List (List Nat)) : Prop where
  go : ∃ (s1 s2 : List Nat) (parts : List (List Nat)), s1.length ≤ 100000 ∧ s.length ≤ 100000 ∧ PySem.Txt.strip (strL s) = strL s1 ∧ s2 = (if s1.getLast? == some 44 then s1.dropLast else s1) ∧
    ((s2 = [] ∧ out = []) ∨ (s2 ≠ [] ∧ PySem.Txt.split (strL s2) (strL [44]) = parts.map strL ∧ out.length = parts.length ∧ parts.length ≤ 1000 ∧ (∀ p ∈ parts, p.length ≤ 100000) ∧ ∀ i < parts.length, PySem.Txt.strip (strL (parts.getD i [])) = strL (out.getD i [])))
theorem d36 (P : Params) : (K1 P).lookup 36 = some ⟨.type "tuple", none, .seq #[.str "," 225] 0, #[]⟩ := by kernel_rfl
section
variable {w : World} {A : Around} {n : Nat} {E : Value → Shared → Prop} {Q : Value → Shared → Prop} {hp h : Heap} {g : Array GenState} {d : Drawn} {t : Nat} {os : OsState} {t1 t2 t3 t4 : Tok} {s : List Nat} {out : List (List Nat)}
theorem t_str {l : List Nat} {Q : Bool → Shared → Prop} (hz : l.length ≤ 1000000) (k : ∀ t, Q (!l.isEmpty) ⟨hp, g, d, t, os⟩) : wpAny (model pg w) A (truthy (.str (strL l) t1)) Q E ⟨hp, g, d, t, os⟩ :=
  P.truthy_str (by rw [strL_len]; omega) (by rw [strL_len, show ((l.length : Int) != 0) = !l.isEmpty by cases l <;> simp [bne] <;> omega]; exact k _)
theorem r_strip {l m : List Nat} (e : PySem.Txt.strip (strL l) = strL m) (hz : l.length ≤ 1000000) (k : ∀ u t, Q (.str (strL m) u) ⟨hp, g, d, t, os⟩) : wpAny (model pg w) A (call (.builtin "str.strip") [.str (strL l) t1]) Q E ⟨hp, g, d, t, os⟩ :=
  SC.strip (s := ⟨hp, g, d, t, os⟩) (by rw [e]; exact fun u t => k u t) (by rw [strL_len, sizeLine_eq]; omega)
theorem r_split {l : List Nat} {parts : List (List Nat)} (e : PySem.Txt.split (strL l) (strL [44]) = parts.map strL) (hz : l.length ≤ 100000) (k : ∀ h' t' D ys, Keeps hp h' → h'.IsList D ys → ys.size = parts.length → (∀ i < parts.length, ∃ u, ys[i]? = some (.str (strL (parts.getD i [])) u)) → Q (.ref D) ⟨h', g, d, t', os⟩) :
    wpAny (model pg w) A (call (.builtin "str.split") [.str (strL l) t1, .str (strL [44]) t2]) Q E ⟨hp, g, d, t, os⟩ := by
  refine SCG.split1 (s := ⟨hp, g, d, t, os⟩) (Fm := fun s' => ∃ h' t', s' = ⟨h', g, d, t', os⟩ ∧ Keeps hp h') ?_ ⟨hp, t, rfl, Keeps.refl⟩ rfl ?_ (by rw [strL_len, sizeLine_eq]; omega) ?_
  · rintro s ob k ⟨h', t', rfl, kp⟩
    exact ⟨_, _, rfl, fun b o e => Heap.get?_push_of_some _ (kp b o e)⟩
  · rintro D l s' hl ⟨h', t', rfl, kp⟩ hD
    rw [e] at hl
    have hlen : l.length = parts.length := by have := congrArg List.length hl; simpa using this
    refine k h' t' D _ kp hD (by simp [strValues, hlen]) fun i hi => ?_
    have hi2 : i < l.length := by omega
    have e2 := congrArg (fun x => x[i]?) hl
    simp only [List.getElem?_map, List.getElem?_eq_getElem hi2, List.getElem?_eq_getElem hi, Option.map_some, Option.some.injEq] at e2
    refine ⟨l[i].2, ?_⟩
    simp [strValues, List.getElem?_eq_getElem hi2, List.getElem?_eq_getElem hi, e2]
  · have h1 := PySem.StrLaws.occ_length_le (strL l) (strL [44]) 0 (strL l).length ((strL l).length + 1)
    unfold Builtin.Str.partsBetween
    rw [List.length_map, List.length_zip, List.length_append, List.length_singleton, sizeLine_eq]
    simp only [strL_len, List.length_cons, List.length_map] at h1 ⊢
    omega
theorem pyIter_L {D : Addr} {ys : Array Value} (hl : hp.IsList D ys) (k : ∀ h' I, Keeps hp h' → h'.get? I = some ⟨.type "list_iterator", none, .fields #[.ref D, .int 0 0], #[]⟩ → hp.get? I = none → Q (.ref I) ⟨h', g, d, t, os⟩) : wpAny (model pg w) A (pyIter (.ref D)) Q E ⟨hp, g, d, t, os⟩ :=
  wpAny_pyIter_list (s := ⟨hp, g, d, t, os⟩) hl (k _ _ (fun b o e => Heap.get?_push_of_some _ e) (Heap.get?_push_size _ rfl) (get_size hp))
theorem r_ends {l : List Nat} (k : Q (.bool (l.getLast? == some 44)) ⟨hp, g, d, t, os⟩) : wpAny (model pg w) A (call (.builtin "str.endswith") [.str (strL l) t1, .str (strL [44]) t2]) Q E ⟨hp, g, d, t, os⟩ :=
  SC.endswith (by rw [ends_L]; exact k)
theorem spl_ok (H : SplOk s out) (hA : AOk A 8) (X : Top w hp) (T : TabOk hp)
   (hQ : ∀ h' t' D ys, KeepsG hp h' → TabOk h' → hp.get? D = none → h'.PlainList D ys → ys.size = out.length → (∀ i < out.length, ∃ u, ys.getD i .none = .str (strL (out.getD i [])) u) → Q (.ref D) ⟨h', g, d, t', os⟩) :
   wpAny (model pg w) A (call (.ref 41) [.str (strL s) t1]) Q E ⟨hp, g, d, t, os⟩ := by
  obtain ⟨s1, s2, parts, z1, z0, e1, e2, hcase⟩ := H.go
  refine wpAny_call (call_fnD (n := 6) (binds := [("source", .str (strL s) t1), ("sep", .str "," 225)]) hA X T fn41 (BindsTo.of_defaults (T := 36) (items := #[.str "," 225]) rfl (X _ _ (d36 w.params)) rfl rfl rfl) (by decide) (by rfl) (locs (by rfl)) ?_)
  intro h₁ t₁ L F hA'
  replace X := X.strike
  refine s_cons ?_
  repeat tb_rel
  refine MethodCall_ ?_ (by rfl)
  repeat tb_rel
  refine GM.strip ?_
  refine callWith_method0 ?_
  refine r_strip e1 (by omega) ?_
  intro u _
  repeat ((fail_if_success (with_reducible refine at_if ?_)); tb_rel)
  refine s_join (fun s' => ∃ h' t' m u, s' = ⟨h', g, d, t', os⟩ ∧ WkT (strike hp) L [] h' h' m (fun _ => none) [] ∧ m "source" = some (.str (strL s2) u) ∧ m "sep" = some (.str (strL [44]) 225)) ?_ ?_
  · repeat tb_rel
    refine MethodCall_ ?_ (by rfl)
    repeat tb_rel
    refine GM.endswith ?_
    repeat tb_rel
    refine r_ends ?_
    repeat tb_rel
    cases hl : (s1.getLast? == some 44) with
    | true =>
      have hne : s1 ≠ [] := by rintro rfl; cases hl
      have hpos := List.length_pos_iff.mpr hne
      rw [hl, if_pos rfl] at e2
      refine br_is true rfl ?_
      repeat tb_rel
      refine tl_S (kk := s1.length - 1) (by omega) (by rw [if_pos (by decide)]; omega) (by omega) ?_ (by intro _; with_unfolding_all rfl) (by intro _; with_unfolding_all rfl)
      intro h2 t2 u2 k2
      replace F := F.kept k2
      rw [← List.dropLast_eq_take, ← e2]
      repeat tb_rel
      exact ⟨rfl, _, _, _, u2, rfl, F.mark, by with_unfolding_all rfl, by with_unfolding_all rfl⟩
    | false =>
      rw [hl, if_neg (by decide)] at e2
      subst e2
      refine br_is false rfl ?_
      repeat tb_rel
      exact ⟨rfl, _, _, _, u, rfl, F.mark, by with_unfolding_all rfl, by with_unfolding_all rfl⟩
  · rintro s' ⟨h, t, m, u, rfl, F, m1, m2⟩
    repeat tb_rel
    have z2 : s2.length ≤ 100000 := by
      rw [e2]; split
      · rw [List.length_dropLast]; omega
      · exact z1
    refine t_str (by omega) ?_
    intro _
    rcases hcase with ⟨rfl, rfl⟩ | ⟨hne, hsp, hlo, hpl, hpz, hst⟩
    · refine br_is true rfl ?_
      repeat tb_rel
      refine e_list ?_
      repeat tb_rel
      refine list_q (by simp) ?_
      intro h2 D k2 hD nD
      have oD := F.ownNew nD
      replace F := F.kept k2
      repeat tb_rel
      exact hQ _ _ D #[] F.oldG F.T oD.hp ⟨0, hD⟩ rfl (fun i hi => absurd hi (Nat.not_lt_zero _))
    · refine br_is false (by cases s2 with | nil => exact absurd rfl hne | cons => rfl) ?_
      repeat tb_rel
      refine lc_eval (cl := []) (by rfl) rfl (by decide) ?_ (by intro _; rfl)
      repeat tb_rel
      refine MethodCall_ ?_ (by rfl)
      repeat tb_rel
      refine GM.split ?_
      repeat tb_rel
      refine r_split hsp z2 ?_
      intro h3 t3 D0 ys0 k3 hD0 hs0 hy0
      replace F := F.kept k3
      refine pyIter_L hD0 ?_
      intro h4 I k4 hI nI
      have oI := F.ownNew nI
      have hD4 : h4.IsList D0 ys0 := by obtain ⟨o, e, r⟩ := hD0; exact ⟨o, k4 _ _ e, r⟩
      have hne : D0 ≠ I := fun x => by obtain ⟨o, e, r⟩ := hD0; rw [x, nI] at e; cases e
      replace F := (F.kept k4).mark
      refine lc_val (El := fun i y o => o = none ∧ ∃ u, y = .str (strL (out.getD i [])) u) (nw := []) (lc_src1 _ (It.list I D0 hne ys0 parts.length hs0) (hA'.less (by omega)) (fun A E Q s st hq => wpAny_pyIter_listiter st.1 hq) (by intro _; rfl) (by simp) ?_ ?_) (by omega) (by decide) rfl F ?_ ?_ ?_ (by simp) (by simp) ?_
      · intro a ha
        rw [List.mem_singleton.mp ha]; exact oI.1
      · intro C2 i v h5 t5 m5 hC2 hi hv F
        obtain ⟨u5, hu⟩ := hy0 i hi
        rw [hu] at hv
        obtain rfl := Option.some.inj hv
        refine wpAny_assign_Name ?_
        repeat tb_rel
        refine MethodCall_ ?_ (by rfl)
        repeat tb_rel
        refine GM.strip ?_
        refine callWith_method0 ?_
        refine r_strip (hst i hi) (by
          have := hpz (parts.getD i []) (by rw [List.getD_eq_getElem?_getD, List.getElem?_eq_getElem hi]; exact List.getElem_mem hi)
          omega) ?_
        intro _ _
        exact ⟨_, _, _, rfl, F, none, ⟨rfl, _, rfl⟩, fun ob z => by cases z⟩
      · intro a ha
        simp only [List.mem_cons, List.not_mem_nil, or_false] at ha
        rcases ha with rfl | rfl
        · exact ⟨_, hI⟩
        · obtain ⟨o, e, r⟩ := hD4; exact ⟨o, e⟩
      · exact ⟨⟨_, hI, rfl, rfl⟩, hD4⟩
      · intro a ha
        rw [List.mem_singleton.mp ha]; exact oI
      · intro D h6 t6 ys nD hD F oD hsz hel
        repeat tb_rel
        refine hQ _ _ D ys F.oldG F.T oD.hp hD (by rw [hsz, hlo]) fun i hi => ?_
        obtain ⟨o, ⟨_, u, e⟩, _⟩ := hel i (by omega)
        exact ⟨u, e⟩
end
end
section
section
variable {w : World} {A : Around} {n : Nat} {E : Value → Shared → Prop} {Q : Value → Shared → Prop} {hp h base : Heap} {g : Array GenState} {d : Drawn} {t : Nat} {os : OsState} {e : Addr} {b : Array UInt8} {t1 : Tok} {outer : List Env}
theorem code_fnR {f : Addr} {fd : FuncData} {body : List Stmt} {vals : List Value} {binds : List (Str × Value)} (hA : AOk A (n + 2)) (X : Top w hp) (FA : FnAt f fd body)
    (hbind : bindArgs fd ⟨vals, []⟩ = pure binds) (hcell : ∀ x ∈ fd.scope.names, x.2 ≠ .cell) (hgen : fd.scope.isGenerator = false) (hloc : ∀ x ∈ binds, fd.scope.names.lookup x.1 = some .local)
    (k : ∀ h₁ t₁ L, Wk hp L h₁ h₁ (fun x => binds.reverse.lookup x) [] → AOk (A.deeper (envX fd.qualname fd.scope L f fd.code [])) n → hp.get? L = none →
      wpAny (model pg w) (A.deeper (envX fd.qualname fd.scope L f fd.code [])) (execs body (envX fd.qualname fd.scope L f fd.code [])) (RetQ Q)
        (fun e s' => wpAny (model pg w) (A.deeper (envX fd.qualname fd.scope L f fd.code [])) (leaving (envX fd.qualname fd.scope L f fd.code []) e) (fun _ s'' => E e s'') (fun e' s'' => E e' s'') s') ⟨h₁, g, d, t₁, os⟩) :
    codeAny (model pg w) A (.call (.ref f) ⟨vals, []⟩) (CodeQ Q E) ⟨hp, g, d, t, os⟩ := by
  refine codeAny_call_def (binds := binds) hA.room (X f _ (FA.at' w.params)) rfl (noLimit X) (codeRec_of X (FA.code w.params)) FA.body (BindsTo.of_eq hbind) hcell hloc ?_ FA.nco hgen FA.kind
  intro h₀ hns hk
  rw [FA.env]
  exact wpAny_mono (k h₀ _ hp.objs.size ⟨⟨hns, hk, Nat.le_refl _⟩, News.nil, fun _ _ _ e => e⟩ ((hA.less (by omega)).deeper _) (get_size hp)) (fun fl s' q => q) (fun e s' q => q)
theorem ev_args {M : Model} {A : Around} {E : Value → Shared → Prop} {s : Shared} {f : Value} {pos : Pos} {env : Env} {e : PySem.Expr} {rest : List PySem.Expr} {Q : Args → Shared → Prop} (h : wpAny M A (spliced (backTo pos (starEach (e :: rest) env))) (fun vs s' => Q ⟨vs, []⟩ s') E s) (he : starEach (e :: rest) env = (false, eval e env) :: starEach rest env) :
    wpAny M A (evalArgs f true (backTo pos (starEach (e :: rest) env)) []) Q E s := by
  rw [he] at h ⊢
  exact evalArgs_plain h
/-- an exception in flight -/
def Flies (base : Heap) (outer : List Env) (hp : Heap) (g : Array GenState) (d : Drawn) (os : OsState) : Value → Shared → Prop := fun ev s' =>
  ∃ ex a0 h' t', ev = .ref ex ∧ s' = ⟨h', g, d, t', os⟩ ∧ Heap.FlyingW base outer ex (.type "ValueError") a0 h' ∧ hp.UpToSlots h'
theorem flies_of {A : Around} {env : Env} {L ex : Addr} {h h' : Heap} {t' : Nat} {args : List Value} {m : Str → Option Value} {news : List (Addr × Obj)} {hz : Heap} (hfr : A.frames = some outer) (kb : base.StaysIn hp) (hout : hp.FunFrames base outer) (nL : hp.get? L = none) (hf : env.frame = some L) (hk : env.scope.kind = .function) (F : Wk hp L hz h m news)
    (hm : Heap.MadeExc h h' ex "ValueError" args) : wpAny (model pg w) (A.deeper env) (leaving env (.ref ex)) (fun _ s'' => Flies base outer hp g d os (.ref ex) s'') E ⟨h', g, d, t', os⟩ := by
  have nb : base.get? L = none := by
    cases q : base.get? L with
    | none => rfl
    | some o => rw [kb _ _ q] at nL; cases nL
  have hL : ∃ o, h.get? L = some o ∧ ∀ vs, o.data ≠ .fields vs := by
    obtain ⟨o, es, ep, ho, hd, _⟩ := F.F.ns
    exact ⟨o, ho, fun vs q => by rw [hd] at q; cases q⟩
  obtain ⟨oL, hoL, hdL⟩ := hL
  refine wpAny_leaves_madeW (base := base) (h := h) (L := L) (by show A.frames.map _ = _; rw [hfr]; rfl) hf (fun b o e => F.old b o (kb b o e)) ⟨by rw [hk]; decide, ⟨L, oL, hf, nb, hoL, hdL⟩, hout.of_keeps fun b o e _ => ⟨o, F.old b o e, rfl⟩⟩ hm.of ?_
  intro h'' tt FW _ _ up
  exact ⟨ex, _, h'', _, rfl, rfl, FW, ((Heap.UpToSlots.of_keeps F.old).trans (Heap.UpToSlots.of_keeps hm.keeps)).trans up⟩
theorem dec_raises (hb : b.size % 4 = 1) (hz : b.size ≤ 100) (hA : AOk A 8) (hfr : A.frames = some outer) (kb : base.StaysIn hp) (hout : hp.FunFrames base outer) (X : Top w hp) :
    codeAny (model pg w) A (.call (.ref 142) ⟨[.ref e, .bytes b t1], []⟩) (CodeQ (fun _ _ => False) (Flies base outer hp g d os)) ⟨hp, g, d, t, os⟩ := by
  refine code_fnR (n := 6) (binds := [("self", .ref e), ("source", .bytes b t1)]) hA X fn142 (by rfl) (by decide) (by rfl) (locs (by rfl)) ?_
  intro h₁ t₁ L F hA' nL
  refine s_cons ?_
  repeat tb_rel
  refine up hA' (x_isinst_bytes_bytes (F.top X) ?_)
  lcg_off
  repeat tb_rel
  refine Assign_Tuple ?_ (by rfl) (by rfl)
  repeat tb_rel
  refine up hA' (x_len_bytes (F.top X) (by omega) ?_)
  lcg_src
  repeat tb_rel
  refine i_divmod (by decide) (by decide) ?_
  intro h _ T u1 u2 k hT
  replace F := F.kept k
  clear k
  rw [show (4 : Int) = ((4 : Nat) : Int) from rfl, fdiv_nat, show ((b.size : Nat) : Int).fmod ((4 : Nat) : Int) = ((b.size % 4 : Nat) : Int) by rw [Int.fmod_eq_emod_of_nonneg _ (by omega)]; rfl] at hT
  refine asg2 hA'.hd F hT (fun h _ F => ?_) rfl rfl rfl rfl
  repeat tb_rel
  refine br_is true (by rw [hb]; rfl) ?_
  repeat tb_rel
  refine wpAny_Raise_call PySem.F.excCall_ValueError PySem.F.excRaise_ValueError hA'.hd (by rfl) ?_
  repeat tb_rel
  refine ⟨rfl, ev_args ?_ (by rfl)⟩
  repeat tb_rel
  refine ⟨rfl, by rw [sizeLine_eq]; show 1 ≤ 16777216; decide, fun h' ex hm => ?_⟩
  exact flies_of hfr kb hout nL rfl rfl F hm
theorem chk_raises {l : List Nat} (hb : l.length % 4 = 1) (hz : l.length ≤ 100) (hA : AOk A 8) (hfr : A.frames = some outer) (kb : base.StaysIn hp) (hout : hp.FunFrames base outer) (X : Top w hp) :
    codeAny (model pg w) A (.call (.ref 186) ⟨[.ref e, .str (strL l) t1], []⟩) (CodeQ (fun _ _ => False) (Flies base outer hp g d os)) ⟨hp, g, d, t, os⟩ := by
  refine code_fnR (n := 6) (binds := [("self", .ref e), ("source", .str (strL l) t1)]) hA X fn186 (by rfl) (by decide) (by rfl) (locs (by rfl)) ?_
  intro h₁ t₁ L F hA' nL
  refine s_cons ?_
  repeat tb_rel
  refine r_slen (by omega) ?_
  intro _ _
  repeat tb_rel
  refine br_is false (by simp [hb]) ?_
  repeat tb_rel
  refine br_is false (by simp [hb]) ?_
  repeat tb_rel
  refine br_is false (by simp [hb]) ?_
  repeat tb_rel
  refine wpAny_Raise_call PySem.F.excCall_ValueError PySem.F.excRaise_ValueError hA'.hd (by rfl) ?_
  repeat tb_rel
  refine ⟨rfl, ev_args ?_ (by rfl)⟩
  repeat tb_rel
  refine ⟨rfl, by rw [sizeLine_eq]; show 1 ≤ 16777216; decide, fun h' ex hm => ?_⟩
  exact flies_of hfr kb hout nL rfl rfl F hm
theorem refuse_ok {q f : Addr} {self given : Value} (hA : AOk A 14) (hfr : A.frames = some outer) (kb : base.StaysIn hp) (hout : hp.FunFrames base outer) (X₀ : Top w base) (hq : base.get? q = some (methodObj (.ref f) self)) (hf : fnIn (K1 w.params) f = true)
    (hd : ∀ (A' : Around) (outer' : List Env) (hp' : Heap) (t' : Nat), AOk A' 10 → A'.frames = some outer' → base.StaysIn hp' → hp'.FunFrames base outer' → codeAny (model pg w) A' (.call (.ref f) ⟨[self, given], []⟩) (CodeQ (fun _ _ => False) (Flies base outer' hp' g d os)) ⟨hp', g, d, t', os⟩)
    (hQ : ∀ h' t', base.StaysIn h' → hp.UpToSlots h' → Q (.bool true) ⟨h', g, d, t', os⟩) : wpAny (model pg w) A (call (.ref 317) [.ref q, given]) Q E ⟨hp, g, d, t, os⟩ := by
  have X : Top w hp := Frag.In.keeps X₀ kb
  refine wpAny_call (code_fnR (n := 12) (binds := [("deed", .ref q), ("given", given)]) hA X fn317 (by rfl) (by decide) (by rfl) (locs (by rfl)) ?_)
  intro h₁ t₁ L F hA' nL
  refine s_cons ?_
  refine wpAny_Try_except ?_
  refine s_cons ?_
  refine s_exprN ?_
  refine callN ?_
  repeat tb_rel
  refine callM (self := self) hf ?_ (by rfl) (by rfl)
  repeat tb_rel
  refine ⟨⟨F.old _ _ (kb _ _ hq), F.top X⟩, ?_⟩
  have nb : base.get? L = none := by
    cases q : base.get? L with
    | none => rfl
    | some o => rw [kb _ _ q] at nL; cases nL
  have hL : ∃ o, h₁.get? L = some o ∧ ∀ vs, o.data ≠ .fields vs := by
    obtain ⟨o, es, ep, ho, hd, _⟩ := F.F.ns
    exact ⟨o, ho, fun vs q => by rw [hd] at q; cases q⟩
  obtain ⟨oL, hoL, hdL⟩ := hL
  have hfr1 : (A.deeper (envX fd317S.1.qualname fd317S.1.scope L 317 fd317S.1.code [])).frames = some (envX fd317S.1.qualname fd317S.1.scope L 317 fd317S.1.code [] :: outer) := by show A.frames.map _ = _; rw [hfr]; rfl
  have kb1 : base.StaysIn h₁ := fun b o e => F.old b o (kb b o e)
  refine wpAny_call (method_call (kb1 _ _ hq) ?_)
  refine codeAny_mono (hd _ _ h₁ _ (hA'.less (by omega)) hfr1 kb1 ⟨(show ScopeKind.function ≠ ScopeKind.module by decide), ⟨L, oL, rfl, nb, hoL, hdL⟩, hout.of_keeps fun b o e _ => ⟨o, F.old b o e, rfl⟩⟩) fun r s' q => ?_
  cases r with
  | ok f => cases f with
    | ret v => exact q.elim
    | _ => exact q.elim
  | error ev =>
    obtain ⟨ex, a0, h', t', rfl, rfl, FW, up⟩ := q
    refine wpAny_looks_onW (s := ⟨h', g, d, t', os⟩) hfr1 rfl FW fun h2 HW up2 => ?_
    refine wpAny_landsW (s := ⟨h2, g, d, t', os⟩) HW fun h3 FW3 up3 => ?_
    have hsub : isSubtype (.type "ValueError") (.type "ValueError") = pure true := by rw [isSubtype_type]; kernel_rfl
    have hexc : isSubtype (.type "ValueError") (.type "BaseException") = pure true := by rw [isSubtype_type]; kernel_rfl
    refine wpAny_handleBy_builtin (X := "ValueError") (T := "ValueError") (b := true) hexc (by rw [isSubtype_type]; kernel_rfl) hsub ?_
    refine nG (glob_all (by rfl)) (Frag.In.keeps X₀ FW3.1) ?_ (by rfl) (by rfl) (by rfl) (by rfl) (by decide)
    refine ⟨rfl, ?_, ?_⟩
    · obtain ⟨o, ho, hc⟩ := FW3.there
      exact ⟨o, ho, hc⟩
    · rw [if_pos rfl]
      refine lands_againW (s := ⟨h3, g, d, t', os⟩) FW3 fun h4 FW4 up4 => ?_
      refine s_cons ?_
      repeat tb_rel
      exact hQ h4 t' FW4.1 (((((Heap.UpToSlots.of_keeps F.old).trans up).trans up2).trans up3).trans up4)
end
end
end
section
section
section
variable {w : World} {A : Around} {E : Value → Shared → Prop} {Q : Value → Shared → Prop} {hp : Heap} {g : Array GenState} {d : Drawn} {t : Nat} {os : OsState} {t1 t2 : Tok} {l : Addr} {items : Array Value}
theorem t_list {Q : Bool → Shared → Prop} (hl : hp.IsList l items) (hz : items.size ≤ 1000000) (k : ∀ t, Q (!items.isEmpty) ⟨hp, g, d, t, os⟩) : wpAny (model pg w) A (truthy (.ref l)) Q E ⟨hp, g, d, t, os⟩ :=
  wpAny_truthy_list (s := ⟨hp, g, d, t, os⟩) hl (by omega) (k _)
theorem tl_li {value slice : PySem.Expr} {i : Int} {u : Tok} {x : Value} (hl : hp.IsList l items) (h0 : 0 ≤ i) (h1 : i < 1000000) (hx : items[i.toNat]? = some x) (k : Q x ⟨hp, g, d, t, os⟩)
    (hs : subscripted slice false (.ref l) (.int i u) = operate [.ref l, .int i u] (getItem (.ref l) (.int i u))) (hg : ∀ r, letTemporaryGo value (.ref l) r = pure ()) :
    wpAny (model pg w) A (subscriptTail value slice (.ref l) (.int i u)) Q E ⟨hp, g, d, t, os⟩ :=
  PyProof.Rows.item_list (s := ⟨hp, g, d, t, os⟩) hl h0 (by omega) hx k hs hg
theorem set_li {i : Int} {u : Tok} {v : Value} {Q : Unit → Shared → Prop} (hl : hp.IsList l items) (h0 : 0 ≤ i) (hn : i < items.size) (hz : items.size ≤ 1000000)
    (k : ∀ h', h'.IsList l (items.setIfInBounds i.toNat v) → Heap.SameBut l hp h' → Q () ⟨h', g, d, t, os⟩) : wpAny (model pg w) A (setItem (.ref l) (.int i u) v) Q E ⟨hp, g, d, t, os⟩ :=
  wpAny_setItem_list (s := ⟨hp, g, d, t, os⟩) hl h0 (by omega) hn k
theorem r_llen (hl : hp.IsList l items) (hz : items.size ≤ 1000000) (k : ∀ u t, Q (.int (items.size : Int) u) ⟨hp, g, d, t, os⟩) : wpAny (model pg w) A (call (.builtin "len") [.ref l]) Q E ⟨hp, g, d, t, os⟩ :=
  PyProof.Rows.len_list (s := ⟨hp, g, d, t, os⟩) hl (by omega) (k _ _)
theorem list_str {s : List Nat} (hh : A.handled = none) (hz : s.length ≤ 1000000) (k : ∀ h' t' D ys, Keeps hp h' → hp.get? D = none → h'.PlainList D ys → ys.size = s.length → (∀ i < s.length, ∃ u, ys.getD i .none = .str (strL [s.getD i 0]) u) → Q (.ref D) ⟨h', g, d, t', os⟩) :
    wpAny (model pg w) A (call (.type "list") [.str (strL s) t1]) Q E ⟨hp, g, d, t, os⟩ := by
  refine call_list_str (s := ⟨hp, g, d, t, os⟩) hh _ _ (fun h' tk acc' c' kp hD hI => ?_) (by show (strL s).length ≤ _; rw [strL_len, sizeLine_eq]; omega)
  refine k h' tk _ acc' kp (get_size hp) ⟨c', hD⟩ ?_ ?_
  · rw [hI.1]; exact strL_len s
  · intro i hi
    have hi2 : i < acc'.size := by rw [hI.1]; exact Nat.lt_of_lt_of_eq hi (strL_len s).symm
    obtain ⟨c, u, hc, e⟩ := hI.2 i acc'[i] (by simp [hi2])
    have hc2 : s[i]? = some c := by have := hc; unfold strL at this; simpa using this
    refine ⟨u, ?_⟩
    rw [show acc'.getD i .none = acc'[i] by simp [Array.getD, hi2], e, List.getD_eq_getElem?_getD, hc2]
    rfl
theorem tl_lsl {value slice : PySem.Expr} {lo up : Value} {a b : Option Int} (hl : hp.IsList l items) (pl : IsPart lo a) (pu : IsPart up b) (hz : items.size ≤ 1000000)
    (k : ∀ h' D, Keeps hp h' → hp.get? D = none → h'.PlainList D (slicePick items a b none) → Q (.ref D) ⟨h', g, d, t, os⟩)
    (hs : ∀ r, subscripted slice false (.ref l) (.ref r) = operate [.ref r, .ref l] (getItem (.ref l) (.ref r))) (ht : ∀ r, letTemporaryGo value (.ref l) r = pure ()) :
    TailSl (model pg w) A E value slice (.ref l) lo up Q ⟨hp, g, d, t, os⟩ := by
  have k1 : Keeps hp (hp.push { cls := .type "slice", data := .fields #[lo, up, .none] }) := fun b o e => Heap.get?_push_of_some _ e
  refine subscriptTail_ops (s := ⟨hp.push { cls := .type "slice", data := .fields #[lo, up, .none] }, g, d, t, os⟩) (Heap.IsList.typeIs (s := ⟨hp.push { cls := .type "slice", data := .fields #[lo, up, .none] }, g, d, t, os⟩) (hl.push _)) slot_list_getitem.lookup
    (wpAny_getItem_list_slice (s := ⟨hp.push { cls := .type "slice", data := .fields #[lo, up, .none] }, g, d, t, os⟩) (hl.push _) (Heap.IsSliceOf.new ..) pl pu .none (by simp) ?_ (by rw [sizeLine_eq]; omega)) (hs _) ht
  refine k _ _ (fun b o e => Heap.get?_push_of_some _ (k1 b o e)) ?_ ⟨_, Heap.get?_push_size _ rfl⟩
  show hp.get? (hp.push _).objs.size = none
  rw [Heap.size_push]
  cases e : hp.get? (hp.objs.size + 1) with
  | none => rfl
  | some o => exact absurd (Heap.lt_size e) (Nat.not_lt.mpr (Nat.le_succ _))
end
end
end
section
local macro_rules | `(tactic| lcg_off) => `(tactic| (intro $(Lean.mkIdent `h) _ $(Lean.mkIdent `k); (first | replace $(Lean.mkIdent `F) := WkT.kept $(Lean.mkIdent `F) $(Lean.mkIdent `k) | replace $(Lean.mkIdent `F) := Wk.kept $(Lean.mkIdent `F) $(Lean.mkIdent `k)); clear $(Lean.mkIdent `k)))
local macro_rules | `(tactic| lcg_src) => `(tactic| (intro $(Lean.mkIdent `h) _ _ $(Lean.mkIdent `k); (first | replace $(Lean.mkIdent `F) := WkT.kept $(Lean.mkIdent `F) $(Lean.mkIdent `k) | replace $(Lean.mkIdent `F) := Wk.kept $(Lean.mkIdent `F) $(Lean.mkIdent `k)); clear $(Lean.mkIdent `k)))
local macro_rules | `(tactic| x_close) => `(tactic| first
  | exact $(Lean.mkIdent `hk) _ _ Keeps.refl
  | exact $(Lean.mkIdent `hk) _ _ (keeps_of_mem (by assumption))
  | exact $(Lean.mkIdent `hk) _ _ _ Keeps.refl
  | exact $(Lean.mkIdent `hk) _ _ _ (keeps_of_mem (by assumption))
  | (apply $(Lean.mkIdent `hk); assumption)
  | (exact $(Lean.mkIdent `hk) _ _ _ (keeps_of_mem (by assumption)) (X.Mem.nw (by assumption) _ (List.mem_cons_self ..)).1 (X.Mem.nw (by assumption) _ (List.mem_cons_self ..)).2)
)
local macro_rules | `(tactic| tb_rel) => `(tactic| first
  | (with_reducible show wpAny _ _ (eval (Expr.Name _ _) _) _ _ _; first
      | with_reducible refine tL $(Lean.mkIdent `F) (by with_unfolding_all first | rfl | assumption) ?_ (by with_unfolding_all rfl) (by with_unfolding_all rfl) (by with_unfolding_all rfl) (by with_unfolding_all decide)
      | with_reducible refine tC $(Lean.mkIdent `F) (by with_unfolding_all first | rfl | assumption) ?_ (by with_unfolding_all rfl) (by with_unfolding_all rfl) (by with_unfolding_all rfl) (by with_unfolding_all rfl) (by with_unfolding_all decide)
      | with_reducible refine tGl $(Lean.mkIdent `X) $(Lean.mkIdent `F) (by with_unfolding_all rfl) ?_ (by with_unfolding_all rfl) (by with_unfolding_all rfl) (by with_unfolding_all rfl) (by with_unfolding_all rfl) (by with_unfolding_all decide)
      | with_reducible refine wL $(Lean.mkIdent `F) (by with_unfolding_all first | rfl | assumption) ?_ (by with_unfolding_all rfl) (by with_unfolding_all rfl) (by with_unfolding_all rfl) (by with_unfolding_all decide)
      | with_reducible refine wFr $(Lean.mkIdent `F) (by with_reducible assumption) (by with_unfolding_all first | rfl | assumption) ?_ (by with_unfolding_all rfl) (by with_unfolding_all rfl) (by with_unfolding_all rfl) (by with_unfolding_all decide) (by with_unfolding_all decide)
      | with_reducible refine wGl $(Lean.mkIdent `X) $(Lean.mkIdent `F) (by with_unfolding_all rfl) ?_ (by with_unfolding_all rfl) (by with_unfolding_all rfl) (by with_unfolding_all rfl) (by with_unfolding_all rfl) (by with_unfolding_all decide))
  | (with_reducible show wpAny _ _ (eval _ _) _ _ _; first
      | with_reducible refine e_int ?_
      | with_reducible refine e_str ?_
      | with_reducible refine wpAny_BinOp ?_
      | with_reducible refine wpAny_Compare1 ?_
      | with_reducible refine wpAny_UnaryOp ?_
      | with_reducible refine callN ?_
      | with_reducible refine sub_sl ?_
      | with_reducible refine sub_ix ?_
      | with_reducible refine s_ifx ?_
      | with_reducible refine Attribute_name ?_
      | with_reducible refine e_bool ?_
      | with_reducible refine e_none ?_)
  | (with_reducible show wpAny _ _ (execs _ _) _ _ _; first
      | with_reducible refine s_cons ?_
      | with_reducible refine s_nil ?_)
  | (with_reducible show wpAny _ _ (exec _ _) _ _ _; first
      | with_reducible refine wpAny_Assign_Name ?_ (by with_unfolding_all rfl)
      | with_reducible refine s_if ?_
      | with_reducible refine wpAny_Return_some ?_
      | with_reducible refine wpAny_AugAssign_Name ?_
      | with_reducible refine s_for ?_ (by intro _; with_unfolding_all rfl)
      | with_reducible refine wpAny_Assert_holds ?_)
  | (with_reducible show wpAny _ _ (storeName _ _ _) _ _ _; first
      | (with_reducible refine tstL $(Lean.mkIdent `F) ?_ (by with_unfolding_all rfl) (by with_unfolding_all rfl) (by with_unfolding_all rfl); clear $(Lean.mkIdent `F); intro _ _ $(Lean.mkIdent `F))
      | (with_reducible refine tstC $(Lean.mkIdent `F) ?_ (by with_unfolding_all rfl) (by with_unfolding_all rfl) (by with_unfolding_all rfl) (by with_unfolding_all rfl); clear $(Lean.mkIdent `F); intro _ _ $(Lean.mkIdent `F))
      | (with_reducible refine wstL $(Lean.mkIdent `F) ?_ (by with_unfolding_all rfl) (by with_unfolding_all rfl) (by with_unfolding_all rfl); clear $(Lean.mkIdent `F); intro _ _ $(Lean.mkIdent `F)))
  | (with_reducible show wpAny _ _ (loadName _ _) _ _ _; first
      | with_reducible refine tldL $(Lean.mkIdent `F) (by with_unfolding_all first | rfl | assumption) ?_ (by with_unfolding_all rfl) (by with_unfolding_all rfl) (by with_unfolding_all rfl)
      | with_reducible refine tldC $(Lean.mkIdent `F) (by with_unfolding_all first | rfl | assumption) ?_ (by with_unfolding_all rfl) (by with_unfolding_all rfl) (by with_unfolding_all rfl) (by with_unfolding_all rfl)
      | with_reducible refine wldL $(Lean.mkIdent `F) (by with_unfolding_all first | rfl | assumption) ?_ (by with_unfolding_all rfl) (by with_unfolding_all rfl) (by with_unfolding_all rfl))
  | (with_reducible show wpAny _ _ (spliced _) _ _ _; first
      | with_reducible refine wpAny_items_cons ?_ (by with_unfolding_all rfl)
      | with_reducible refine wpAny_items_nil ?_)
  | (with_reducible show wpAny _ _ (callWith _ _ _ _ _) _ _ _; first
      | with_reducible refine callB ?_ (by with_unfolding_all rfl) (by with_unfolding_all rfl)
      | with_reducible refine callT ?_ (by with_unfolding_all rfl) (by with_unfolding_all rfl)
      | with_reducible refine callKn $(Lean.mkIdent `X) (by kernel_rfl) ?_ (by with_unfolding_all rfl) (by with_unfolding_all rfl))
  | (with_reducible show wpAny _ _ (isTrue _ _ _) _ _ _; first
      | with_reducible refine wpAny_isTrue_Compare1 ?_
      | with_reducible refine wpAny_isTrue_Not ?_
      | with_reducible refine wpAny_isTrue_BoolOp ?_
      | with_reducible refine wpAny_isTrue_value ?_ (by with_unfolding_all rfl))
  | (with_reducible show wpAny _ _ (truthy _) _ _ _; first
      | with_reducible refine t_bool ?_
      | with_reducible refine t_int ?_)
  | (with_reducible show wpAny _ _ (compareOp _ _ _) _ _ _; first
      | with_reducible refine i_eq ?_
      | with_reducible refine i_ne ?_
      | with_reducible refine i_lt ?_
      | with_reducible refine i_gt ?_
      | with_reducible refine i_ge ?_
      | with_reducible refine is_nn ?_)
  | (with_reducible show wpAny _ _ (binaryOp _ _ _) _ _ _; first
      | (with_reducible refine n_and63 ?_; intro _ _)
      | (with_reducible refine n_and15 ?_; intro _ _)
      | (with_reducible refine n_and3 ?_; intro _ _)
      | (with_reducible refine n_or ?_; intro _ _)
      | (with_reducible refine n_shr2 ?_; intro _ _)
      | (with_reducible refine n_shr4 ?_; intro _ _)
      | (with_reducible refine n_shr6 ?_; intro _ _)
      | (with_reducible refine n_shl2 (by omega) ?_; intro _ _)
      | (with_reducible refine n_shl4 (by omega) ?_; intro _ _)
      | (with_reducible refine n_shl6 (by omega) ?_; intro _ _)
      | (with_reducible refine i_add ?_; intro _ _)
      | (with_reducible refine i_sub ?_; intro _ _)
      | (with_reducible refine i_and ?_; intro _ _)
      | (with_reducible refine i_or ?_; intro _ _)
      | (with_reducible refine i_xor ?_; intro _ _))
  | (with_reducible show wpAny _ _ (inplaceOp _ _ _) _ _ _; first
      | (with_reducible refine i_iand ?_; intro _ _)
      | (with_reducible refine i_ior ?_; intro _ _)
      | (with_reducible refine i_iadd ?_; intro _ _))
  | (with_reducible show wpAny _ _ (unaryOp _ _) _ _ _; first
      | (with_reducible refine i_neg ?_; intro _ _)
      | (with_reducible refine i_inv ?_; intro _ _))
  | (with_reducible show wpAny _ _ (evalPart _ _) _ _ _; first
      | with_reducible refine part0 ?_
      | with_reducible refine part1 ?_)
  | with_reducible refine then_next ?_
  | with_reducible refine then_ret ?_
  | with_reducible refine br_t ?_
  | with_reducible refine br_f ?_
  | with_reducible refine br_nt ?_
  | with_reducible refine br_nf ?_
  | with_reducible refine And.intro (fun _ => WkT.top $(Lean.mkIdent `F) $(Lean.mkIdent `X)) ?_
  | with_reducible refine And.intro (fun _ => Wk.top $(Lean.mkIdent `F) $(Lean.mkIdent `X)) ?_
  | with_reducible refine retQ ?_
  | with_reducible refine brE_t ?_
  | with_reducible refine brE_f ?_)
section
section
variable {w : World} {E : Value → Shared → Prop} {Q : Value → Shared → Prop} {hp h : Heap} {g : Array GenState} {d : Drawn} {t : Nat} {os : OsState} {sl : Addr} {vs : List Value} {script : List Int}
def hashL : List Nat := [46, 47, 48, 49, 50, 51, 52, 53, 54, 55, 56, 57, 65, 66, 67, 68, 69, 70, 71, 72, 73, 74, 75, 76, 77, 78, 79, 80, 81, 82, 83, 84, 85, 86, 87, 88, 89, 90, 97, 98, 99, 100, 101, 102, 103, 104, 105, 106, 107, 108, 109, 110, 111, 112, 113, 114, 115, 116, 117, 118, 119, 120, 121, 122]
def hashS : { v : Value // ∀ P, nsIn (K1 P) 3 "HASH64_CHARS" = some (some v) } := ⟨_, fun P => by rfl⟩
theorem gl_hash : GlobIs "HASH64_CHARS" hashS.1 := fun P => .inl (hashS.2 P)
theorem hash_is : ∃ t, hashS.1 = .str (strL hashL) t := ⟨_, by rfl⟩
theorem hash_len : hashL.length = 64 := rfl
theorem hash_nodup : hashL.Nodup := by decide +kernel
theorem hash_rng : ∀ c ∈ hashL, 45 < c ∧ c < 123 := by decide +kernel
theorem ints_at : ∀ {vs : List Value} {ns : List Int}, IntsAre vs ns → ∀ i < ns.length, ∃ u, vs[i]? = some (.int (ns.getD i 0) u)
  | _, _, .nil, i, h => absurd h (Nat.not_lt_zero _)
  | _, _, .cons n t r, 0, _ => ⟨t, rfl⟩
  | _, _, .cons n t r, i + 1, h => by
    obtain ⟨u, e⟩ := ints_at r i (by simpa using h)
    exact ⟨u, by simpa using e⟩
theorem ok_callerA : AOk callerA 49 := ⟨rfl, by decide +kernel, by decide +kernel⟩
theorem list_out (T : TabOk hp) (hL : hp.IsList sl vs.toArray) : sl ∉ grows := by
  obtain ⟨o, ho, hc, ne, hd⟩ := hL
  intro hg
  simp only [grows, List.mem_cons, List.not_mem_nil, or_false] at hg
  rcases hg with rfl | rfl | rfl
  · obtain ⟨ps, e⟩ := T.1.live2; rw [e] at ho; cases ho; cases hd
  · obtain ⟨ps, e⟩ := T.2.1.live2; rw [e] at ho; cases ho; cases hd
  · obtain ⟨ps, e⟩ := T.2.2.live2; rw [e] at ho; cases ho; cases hd
end
end
section
section
variable {w : World} {A : Around} {E : Value → Shared → Prop} {Q : Value → Shared → Prop} {h : Heap} {g : Array GenState} {d : Drawn} {t : Nat} {os : OsState} {D : Addr} {ys : Array Value} {n : Nat}
theorem x_enumL (X : Frag.In (K1 w.params) h) (hD : h.get? D = some ⟨.type "list", none, .seq ys n, #[]⟩) (hk : ∀ h' t' e I, Mem h h' [] [(e, ⟨.type "enumerate", none, .fields #[.none, .bool false, .ref I, rawInt 0, .none, .none], #[]⟩), (I, ⟨.type "list_iterator", none, .fields #[.ref D, .int 0 0], #[]⟩)] → Q (.ref e) ⟨h', g, d, t', os⟩) :
    wpAny (model pg w) AX (call (.type "enumerate") [.ref D]) Q E ⟨h, g, d, t, os⟩ := by x_run
end
end
section
/-- sixty-four signs in their places -/
structure Good (f : Nat → Nat) : Prop where
  rng : ∀ i < 64, 45 < f i ∧ f i < 123
  inj : ∀ i j, i < 64 → j < 64 → f i = f j → i = j
def swapF (f : Nat → Nat) (a b : Nat) : Nat → Nat := fun i => if i = b then f a else if i = a then f b else f i
theorem Good.swap {f : Nat → Nat} (G : Good f) {a b : Nat} (ha : a < 64) (hb : b < 64) : Good (swapF f a b) := by
  refine ⟨fun i hi => ?_, fun i j hi hj e => ?_⟩
  · unfold swapF
    split
    · exact G.rng a ha
    · split
      · exact G.rng b hb
      · exact G.rng i hi
  · unfold swapF at e
    have key : ∀ x y, x < 64 → y < 64 → f x = f y → x = y := G.inj
    repeat' split at e
    all_goals first
      | omega
      | (have hk := key _ _ (by assumption) (by assumption) e; omega)
def PlacesAre (ys : Array Value) (f : Nat → Nat) : Prop := ys.size = 64 ∧ ∀ i < 64, ∃ u, ys.getD i .none = .str (strL [f i]) u
theorem hash_good : Good (fun i => hashL.getD i 0) := by
  refine ⟨fun i hi => ?_, fun i j hi hj e => ?_⟩
  · exact hash_rng _ (by rw [List.getD_eq_getElem?_getD, List.getElem?_eq_getElem (by rw [hash_len]; exact hi)]; exact List.getElem_mem _)
  · have h1 : i < hashL.length := by rw [hash_len]; exact hi
    have h2 : j < hashL.length := by rw [hash_len]; exact hj
    rw [List.getD_eq_getElem?_getD, List.getD_eq_getElem?_getD, List.getElem?_eq_getElem h1, List.getElem?_eq_getElem h2, Option.getD_some, Option.getD_some] at e
    exact (List.getElem_inj hash_nodup).mp e
section
variable {w : World} {A : Around} {E : Value → Shared → Prop} {h h₀ hz : Heap} {g : Array GenState} {d : Drawn} {t : Nat} {os : OsState} {env : Env} {m cm : Str → Option Value} {news : List (Addr × Obj)} {L : Addr} {cs : List (Str × Addr)} {M : Model}
/-- a pair taken apart into a cell and a name -/
theorem tasgC {x y : Str} {px py pos : Pos} {k : Nat} {T : Addr} {a b : Value} {Q : Unit → Shared → Prop}
    (hh : A.handled = none) (F : WkT h₀ L cs hz h m cm news) (hT : IsPair h T a b)
    (q : ∀ h' t', WkT h₀ L cs hz h' (fun z => if z = y then some b else m z) (fun z => if z = x then some a else cm z) news → Q () ⟨h', g, d, t', os⟩)
    (hL : env.locals = L) (hE : env.cells = cs) (hc : (env.cells.lookup x).isSome = true) (hk : env.scope.kind = .function) (hx : env.kindOf x = some .cell) (hy : env.kindOf y = some .local) :
    wpAny (model pg w) A (assign (.Tuple [.Name x px, .Name y py] k pos) env (.ref T)) Q E ⟨h, g, d, t, os⟩ := by
  refine wpAny_assign_Tuple (items := #[a, b]) hh ⟨_, hT, rfl, _, rfl⟩ rfl rfl fun h₁ e₁ => ?_
  have F₁ : WkT h₀ L cs hz h₁ m cm news := F.kept fun c o e => e₁ c o (Nat.ne_of_lt (Heap.lt_size e)) e
  refine assignInOrder_cons ?_
  refine wpAny_assign_Name (tstC F₁ (fun h₂ t₂ F₂ => ?_) hE hc hk hx)
  refine assignInOrder_cons ?_
  refine wpAny_assign_Name (tstL F₂ (fun h₃ t₃ F₃ => ?_) hL hk hy)
  exact assignInOrder_nil (q _ _ F₃)
theorem asg_sub {o i : PySem.Expr} {pos : Pos} {v : Value} {Q : Unit → Shared → Prop} {s : Shared} (h : wpAny M A (eval o env) (fun ov s₁ => wpAny M A (eval i env) (fun iv s₂ => wpAny M A (setItem ov iv v) (fun _ s₃ => Q () s₃) E s₂) E s₁) E s) :
    wpAny M A (assign (.Subscript o i pos) env v) Q E s := fun Γ p hΓ => by
  simp only [assign_Subscript, Sem.wp_bind', Sem.wp_holding, Sem.wp_cmd_standAt, Sem.wp_release, Sem.wp_pure']
  exact Sem.wp_mono M Γ _ (fun ov p₁ s₁ h₁ => Sem.wp_mono M Γ _ (fun iv p₂ s₂ h₂ => h₂ Γ _ hΓ) (fun _ _ _ h' => h') _ _ (h₁ Γ p₁ hΓ)) (fun _ _ _ h' => h') _ _ (h Γ _ hΓ)
end
end
section
/-- all that an engine is made of was not there before -/
structure EngNew (hp : Heap) (p : EngP) (e : Addr) : Prop where
  n0 : hp.get? e = none ∧ e ∉ tabs
  n1 : hp.get? p.D = none ∧ p.D ∉ tabs
  n2 : hp.get? p.q1 = none ∧ p.q1 ∉ tabs
  n3 : hp.get? p.q2 = none ∧ p.q2 ∉ tabs
  n4 : hp.get? p.q3 = none ∧ p.q3 ∉ tabs
  n5 : hp.get? p.q4 = none ∧ p.q4 ∉ tabs
  n6 : hp.get? p.dd = none ∧ p.dd ∉ tabs
section
variable {w : World} {A : Around} {n : Nat} {E : Value → Shared → Prop} {Q : Value → Shared → Prop} {hp h h2 hz : Heap} {g : Array GenState} {d : Drawn} {t : Nat} {os : OsState} {e D L : Addr} {chars : Array UInt8} {big : Bool} {t1 t2 : Tok} {v : Value} {m cm : Str → Option Value} {news : List (Addr × Obj)} {cs : List (Str × Addr)}
theorem WkT.fr1 {a : Addr} {o : Obj} (F : WkT (strike hp) L cs hz h m cm news) (q : (a, o) ∈ news) : hp.get? a = none ∧ a ∉ tabs := ⟨(strike_in (tab_grow (F.own q).2.1)).symm.trans (F.own q).1, (F.own q).2.1⟩
theorem init_codeN {gb : BG} (hA : AOk A 28) (X : Top w hp) (T : TabOk h2) (k2 : Keeps hp h2) (sz : hp.objs.size ≤ h2.objs.size) (nD : hp.get? D = none) (ne : hp.get? e = none) (hDe : D ≠ e) (nDt : D ∉ tabs) (net : e ∉ tabs) (hD : h2.get? D = some (dictOf [] 0)) (he : h2.get? e = some (instObj 294 D)) (C : Chs chars)
    (hv : v = .str (strOf chars) t1 ∨ v = .bytes chars t1)
    (hQ : ∀ h' (g' : BG) t' p, KeepsG hp h' → TabOk h' → Eng (strike h') p e chars big → EngNew hp p e → Q .none ⟨h', g', d, t', os⟩) :
    codeAny (model pg w) A (.call (.ref 106) ⟨[.ref e, v, .bool big], []⟩) (CodeQ Q E) ⟨h2, gb, d, t, os⟩ := by
  obtain ⟨g, bg⟩ := gb
  dsimp only
  refine call_fnD (n := 26) (binds := [("self", .ref e), ("charmap", v), ("big", .bool big)]) hA (Frag.In.keeps X k2) T fn106 (BindsTo.of_defaults (T := 99) (items := #[.bool false]) rfl (Frag.In.keeps X k2 _ _ (d99 w.params)) rfl rfl rfl) (by decide) (by rfl) (locs (by rfl)) ?_
  intro h₁ t₁ L F hA'
  have hLt := F.F.above
  rw [strike_size] at hLt
  have hD1 := F.F.keep D _ ((strike_in (tab_grow nDt)).trans hD)
  have he1 := F.F.keep e _ ((strike_in (tab_grow net)).trans he)
  have oD : Own (strike hp) L [] D := ⟨(strike_in (tab_grow nDt)).trans nD, nDt, Nat.ne_of_lt (Nat.lt_of_lt_of_le (Heap.lt_size hD) hLt), fun _ q => by cases q⟩
  have oe : Own (strike hp) L [] e := ⟨(strike_in (tab_grow net)).trans ne, net, Nat.ne_of_lt (Nat.lt_of_lt_of_le (Heap.lt_size he) hLt), fun _ q => by cases q⟩
  replace F := WkT.base (h₀' := strike hp) F (strike_mono k2) (by rw [strike_size, strike_size]; exact sz)
  replace X := X.strike
  replace F := (F.ownIn he1 oe).ownIn hD1 oD
  clear hLt hD1 he1 oD oe hD he k2 sz nD ne nDt net T
  have hasc : Asc (strOf chars) := by
    intro c hc
    unfold strOf at hc
    obtain ⟨i, hi, rfl⟩ := Array.mem_iff_getElem.mp hc
    simp only [Array.size_map] at hi
    have := C.asc i (C.size ▸ hi)
    simpa [Array.getD, hi] using this
  refine s_join (fun s' => ∃ h' t' m u, s' = ⟨h', g, d, t', os⟩ ∧ WkT (strike hp) L [] h' h' m (fun _ => none) [(D, dictOf [] 0), (e, instObj 294 D)] ∧ m "self" = some (.ref e) ∧ m "charmap" = some (.bytes chars u) ∧ m "big" = some (.bool big)) ?_ ?_
  · repeat tb_rel
    rcases hv with rfl | rfl
    · refine up hA' (x_isinst_str_str (F.top X) ?_)
      lcg_off
      repeat tb_rel
      refine MethodCall_ ?_ (by rfl)
      repeat tb_rel
      refine gm_encode ?_
      repeat tb_rel
      refine enc_latin hasc (by show (strOf chars).cps.size ≤ _; unfold strOf; rw [Array.size_map, C.size]; decide) ?_
      intro _ _
      rw [bytes_str]
      repeat tb_rel
      exact ⟨rfl, _, _, _, _, rfl, F.mark, by with_unfolding_all rfl, by with_unfolding_all rfl, by with_unfolding_all rfl⟩
    · refine up hA' (x_isinst_bytes_str (F.top X) ?_)
      lcg_off
      repeat tb_rel
      refine up hA' (x_isinst_bytes_bytes (F.top X) ?_)
      lcg_off
      repeat tb_rel
      exact ⟨rfl, _, _, _, _, rfl, F.mark, by with_unfolding_all rfl, by with_unfolding_all rfl, by with_unfolding_all rfl⟩
  · rintro s' ⟨h, t, m, u, rfl, F, m1, m2, m3⟩
    repeat tb_rel
    refine up hA' (x_len_bytes (F.top X) (by rw [C.size]; decide) ?_)
    lcg_src
    rw [C.size]
    repeat tb_rel
    refine br_is false (by simp) ?_
    repeat tb_rel
    refine set_chars C (hA'.less (by omega)) ?_
    intro h2 t2 a na k2 hl
    replace F := F.kept k2
    repeat tb_rel
    refine hl _ _ _ _ ?_
    intro _ _
    clear hl na k2
    repeat tb_rel
    refine br_is false (by simp) ?_
    repeat tb_rel
    refine plainObj_wpAny_Assign_Attribute ?_ (by rfl)
    repeat tb_rel
    refine set_w X F hDe.symm (by simp) (by kernel_rfl) (by rfl) (by simp) (by rfl) ?_
    intro h t u1 F
    repeat tb_rel
    refine plainObj_wpAny_Assign_Attribute ?_ (by rfl)
    repeat tb_rel
    refine ga_gi ?_
    intro h3 q1 t k3 hq1 nq1
    have d1 : q1 ≠ D := fun x => by have := F.get (List.mem_cons_self ..); rw [x, this] at nq1; cases nq1
    replace F := F.add3 k3 hq1 nq1
    clear k3 hq1 nq1
    repeat tb_rel
    refine set_w X F hDe.symm (by simp [d1]) (by kernel_rfl) (by rfl) (by simp) (by rfl) ?_
    intro h t u2 F
    repeat tb_rel
    refine gx_make (cl := []) ?_ hA'.room rfl rfl (by decide) rfl rfl (by intro _; rfl)
    repeat tb_rel
    refine up hA' (x_enumB (F.top X) ?_)
    intro h t en I Dm
    have ne := Dm.nw _ (List.mem_cons_self ..)
    have nI := Dm.nw _ (List.mem_cons_of_mem _ (List.mem_cons_self ..))
    dsimp only at ne nI
    have ord := Dm.ord
    simp only [List.map_cons, List.map_nil, List.pairwise_cons, List.mem_cons, List.not_mem_nil, or_false, forall_eq_or_imp, forall_eq, gt_iff_lt] at ord
    have heI : en ≠ I := Nat.ne_of_gt ord.1
    clear ord
    have oE := F.ownNew ne.2
    have dI := F.ne (h' := h) (List.mem_cons_self ..) nI.2
    have dE := F.ne (h' := h) (List.mem_cons_self ..) ne.2
    have eI := F.ne (h' := h) (List.mem_cons_of_mem _ (List.mem_cons_self ..)) nI.2
    have eE := F.ne (h' := h) (List.mem_cons_of_mem _ (List.mem_cons_self ..)) ne.2
    have qI := F.ne (h' := h) (List.mem_cons_of_mem _ (List.mem_cons_of_mem _ (List.mem_cons_self ..))) nI.2
    have qE := F.ne (h' := h) (List.mem_cons_of_mem _ (List.mem_cons_of_mem _ (List.mem_cons_self ..))) ne.2
    replace F := F.add (keeps_of_mem Dm) nI.1 nI.2
    replace F := F.ownIn ne.1 oE
    clear Dm
    repeat tb_rel
    refine wpAny_pyIter_enum (e := en) (it := I) (i := 0) (old := .none) (F.get (List.mem_cons_self ..)) ?_
    refine gx_go 105 101 (by decide) F X rfl rfl ?_
    intro h' t' Ig Cf code nm qn cd hcd F' oI oC hne kp nIg nC hg FC
    have hCI : Cf ≠ I := fun x => by rw [x, F.get (a := I) (List.mem_cons_of_mem _ (List.mem_cons_self ..))] at nC; cases nC
    have hCe : Cf ≠ en := fun x => by rw [x, F.get (a := en) (List.mem_cons_self ..)] at nC; cases nC
    have hgI : Ig ≠ I := fun x => by rw [x, F.get (a := I) (List.mem_cons_of_mem _ (List.mem_cons_self ..))] at nIg; cases nIg
    have hge : Ig ≠ en := fun x => by rw [x, F.get (a := en) (List.mem_cons_self ..)] at nIg; cases nIg
    have dC : Cf ≠ D := fun x => by rw [x, F.get (a := D) (List.mem_cons_of_mem _ (List.mem_cons_of_mem _ (List.mem_cons_self ..)))] at nC; cases nC
    have eC : Cf ≠ e := fun x => by rw [x, F.get (a := e) (List.mem_cons_of_mem _ (List.mem_cons_of_mem _ (List.mem_cons_of_mem _ (List.mem_cons_self ..))))] at nC; cases nC
    have qC : Cf ≠ q1 := fun x => by rw [x, F.get (a := q1) (List.mem_cons_of_mem _ (List.mem_cons_of_mem _ (List.mem_cons_of_mem _ (List.mem_cons_of_mem _ (List.mem_cons_self ..)))))] at nC; cases nC
    replace F := F'
    clear F' nC nIg kp ne nI
    have hri := F.get (a := I) (List.mem_cons_of_mem _ (List.mem_cons_self ..))
    have hre := F.get (a := en) (List.mem_cons_self ..)
    have owI := F.own (a := I) (List.mem_cons_of_mem _ (List.mem_cons_self ..))
    have owe := F.own (a := en) (List.mem_cons_self ..)
    have gst := dict_gst (w := w) (g := g) (d := d) (t' := t') (os := os) (It.bytes I chars u 64 C.size) hcd (F.top X) hg FC hre (fun s hs => ⟨_, hs I (by simp) _ hri, rfl, rfl⟩) ⟨_, hri⟩ (Ne.symm hCe) (Ne.symm hCI) heI
    have c2 : (2 : Addr) ≠ Cf := fun x => by have := X 2 _ (eq2 w.params); rw [x, oC.1] at this; cases this
    have e2 : (2 : Addr) ≠ en := fun x => by have := X 2 _ (eq2 w.params); rw [x, owe.1] at this; cases this
    have i2 : (2 : Addr) ≠ I := fun x => by have := X 2 _ (eq2 w.params); rw [x, owI.1] at this; cases this
    repeat tb_rel
    refine dict_of (c := 20) (N := 64) (key := chKey chars) (fp := [2, Ig, Cf, en, I]) (wr := [Cf, en, I]) (by omega) (by simp) (by simp) (by simp) (by simp [c2, e2, i2]) (by simp [hne, hge, hgI]) (hA'.less (by omega)) ?_ (by omega) ?_ hg gst ?_
    · intro i j hi hj hij
      refine C.inj i j hi hj ?_
      unfold chKey at hij; omega
    · intro b hb
      simp only [List.mem_cons, List.not_mem_nil, or_false] at hb
      rcases hb with rfl | rfl | rfl | rfl | rfl
      · exact ⟨_, gst.two⟩
      · exact ⟨_, hg⟩
      · exact gst.live _ (by simp)
      · exact gst.live _ (by simp)
      · exact gst.live _ (by simp)
    · intro s' dd ndd mv hM
      obtain ⟨h2, g2, d2, t2, os2⟩ := s'
      obtain rfl : d2 = d := mv.drawn
      obtain rfl : os2 = os := mv.os
      have bg2 : Bare g2 := mv.bare (bg.push _)
      have oA := F.ownNew ndd
      have dd1 := F.ne (h' := h) (a := dd) (b := D) (List.mem_cons_of_mem _ (List.mem_cons_of_mem _ (List.mem_cons_self ..))) ndd
      replace F := WkT.mv (s := ⟨h', g.push (.fresh cd), _, t', _⟩) (s' := ⟨h2, g2, _, t2, _⟩) (F.fewer fun p q => List.mem_cons_of_mem _ (List.mem_cons_of_mem _ q)).mark mv (by
        intro a ha
        simp only [List.mem_cons, List.not_mem_nil, or_false] at ha
        rcases ha with rfl | rfl | rfl
        · exact oC
        · exact owe
        · exact owI) (by simp [dC.symm, eC.symm, qC.symm, dI.symm, dE.symm, eI.symm, eE.symm, qI.symm, qE.symm])
      obtain ⟨⟨oc, odi, oda, osl⟩, es, ep, ho, ⟨rfl, rfl, rfl⟩, rfl⟩ := hM.obj
      have hmap : ∀ h : Heap, h.get? dd = some ⟨.type "dict", none, .dict es ep, #[]⟩ → MapTo w h dd (chKey chars) 64 := fun h e => hM.at' (fun o' e' => by rw [ho] at e'; cases e'; exact e)
      replace F := F.own3 ho oA
      clear hM mv ho ndd gst hcd FC hg hri hre hne hge hgI hCI hCe owI owe oC oI oE heI c2 e2 i2 dC eC qC dI dE eI eE qI qE
      repeat tb_rel
      refine plainObj_wpAny_Assign_Attribute ?_ (by rfl)
      repeat tb_rel
      refine ga_gd (F.get (a := dd) (List.mem_cons_of_mem _ (List.mem_cons_of_mem _ (List.mem_cons_self ..)))) ?_
      intro h3 q2 t k3 hq2 nq2
      have d2' := F.ne (h' := h) (List.mem_cons_self ..) nq2
      replace F := F.add3 k3 hq2 nq2
      clear k3 hq2 nq2
      repeat tb_rel
      refine set_w X F hDe.symm (by simp [d1, dd1, d2']) (by kernel_rfl) (by rfl) (by simp) (by rfl) ?_
      intro h t u3 F
      repeat tb_rel
      refine plainObj_wpAny_Assign_Attribute ?_ (by rfl)
      repeat tb_rel
      refine set_w X F hDe.symm (by simp [d1, dd1, d2']) (by kernel_rfl) (by rfl) (by simp) (by rfl) ?_
      intro h t u4 F
      repeat tb_rel
      cases big with
      | true =>
        repeat tb_rel
        refine plainObj_wpAny_Assign_Attribute ?_ (by rfl)
        repeat tb_rel
        refine bound_w (f := 135) X F (by kernel_rfl) (by kernel_rfl) ?_
        intro h t q3 d3 F
        repeat tb_rel
        refine set_w X F hDe.symm (by simp [d1, dd1, d2', d3]) (by kernel_rfl) (by rfl) (by simp) (by rfl) ?_
        intro h t u5 F
        repeat tb_rel
        refine plainObj_wpAny_Assign_Attribute ?_ (by rfl)
        repeat tb_rel
        refine bound_w (f := 156) X F (by kernel_rfl) (by kernel_rfl) ?_
        intro h t q4 d4 F
        repeat tb_rel
        refine set_w X F hDe.symm (by simp [d1, dd1, d2', d3, d4]) (by kernel_rfl) (by rfl) (by simp) (by rfl) ?_
        intro h t u6 F
        repeat tb_rel
        refine hQ _ ⟨g2, bg2⟩ _ ⟨D, q1, q2, q3, q4, dd, _, _, _, _, _, _, u1, u2, u3, u4, u5, u6, u, u, 6⟩ F.oldG F.T ⟨F.sget (List.mem_cons_of_mem _ (List.mem_cons_self ..)), F.sget (List.mem_cons_self ..), F.sget (List.mem_cons_of_mem _ (List.mem_cons_of_mem _ (List.mem_cons_of_mem _ (List.mem_cons_of_mem _ (List.mem_cons_of_mem _ (List.mem_cons_of_mem _ (List.mem_cons_self ..))))))), F.sget (List.mem_cons_of_mem _ (List.mem_cons_of_mem _ (List.mem_cons_of_mem _ (List.mem_cons_of_mem _ (List.mem_cons_self ..))))), F.sget (List.mem_cons_of_mem _ (List.mem_cons_of_mem _ (List.mem_cons_of_mem _ (List.mem_cons_self ..)))), F.sget (List.mem_cons_of_mem _ (List.mem_cons_of_mem _ (List.mem_cons_self ..))), ?_, C.size⟩ ⟨F.fr1 (List.mem_cons_of_mem _ (List.mem_cons_self ..)), F.fr1 (List.mem_cons_self ..), F.fr1 (List.mem_cons_of_mem _ (List.mem_cons_of_mem _ (List.mem_cons_of_mem _ (List.mem_cons_of_mem _ (List.mem_cons_of_mem _ (List.mem_cons_of_mem _ (List.mem_cons_self ..))))))), F.fr1 (List.mem_cons_of_mem _ (List.mem_cons_of_mem _ (List.mem_cons_of_mem _ (List.mem_cons_of_mem _ (List.mem_cons_self ..))))), F.fr1 (List.mem_cons_of_mem _ (List.mem_cons_of_mem _ (List.mem_cons_of_mem _ (List.mem_cons_self ..)))), F.fr1 (List.mem_cons_of_mem _ (List.mem_cons_of_mem _ (List.mem_cons_self ..))), F.fr1 (List.mem_cons_of_mem _ (List.mem_cons_of_mem _ (List.mem_cons_of_mem _ (List.mem_cons_of_mem _ (List.mem_cons_of_mem _ (List.mem_cons_self ..))))))⟩
        rw [C.size]
        exact (hmap _ (F.sget (List.mem_cons_of_mem _ (List.mem_cons_of_mem _ (List.mem_cons_of_mem _ (List.mem_cons_of_mem _ (List.mem_cons_of_mem _ (List.mem_cons_self ..)))))))).intMap
      | false =>
        repeat tb_rel
        refine plainObj_wpAny_Assign_Attribute ?_ (by rfl)
        repeat tb_rel
        refine bound_w (f := 128) X F (by kernel_rfl) (by kernel_rfl) ?_
        intro h t q3 d3 F
        repeat tb_rel
        refine set_w X F hDe.symm (by simp [d1, dd1, d2', d3]) (by kernel_rfl) (by rfl) (by simp) (by rfl) ?_
        intro h t u5 F
        repeat tb_rel
        refine plainObj_wpAny_Assign_Attribute ?_ (by rfl)
        repeat tb_rel
        refine bound_w (f := 149) X F (by kernel_rfl) (by kernel_rfl) ?_
        intro h t q4 d4 F
        repeat tb_rel
        refine set_w X F hDe.symm (by simp [d1, dd1, d2', d3, d4]) (by kernel_rfl) (by rfl) (by simp) (by rfl) ?_
        intro h t u6 F
        repeat tb_rel
        refine hQ _ ⟨g2, bg2⟩ _ ⟨D, q1, q2, q3, q4, dd, _, _, _, _, _, _, u1, u2, u3, u4, u5, u6, u, u, 6⟩ F.oldG F.T ⟨F.sget (List.mem_cons_of_mem _ (List.mem_cons_self ..)), F.sget (List.mem_cons_self ..), F.sget (List.mem_cons_of_mem _ (List.mem_cons_of_mem _ (List.mem_cons_of_mem _ (List.mem_cons_of_mem _ (List.mem_cons_of_mem _ (List.mem_cons_of_mem _ (List.mem_cons_self ..))))))), F.sget (List.mem_cons_of_mem _ (List.mem_cons_of_mem _ (List.mem_cons_of_mem _ (List.mem_cons_of_mem _ (List.mem_cons_self ..))))), F.sget (List.mem_cons_of_mem _ (List.mem_cons_of_mem _ (List.mem_cons_of_mem _ (List.mem_cons_self ..)))), F.sget (List.mem_cons_of_mem _ (List.mem_cons_of_mem _ (List.mem_cons_self ..))), ?_, C.size⟩ ⟨F.fr1 (List.mem_cons_of_mem _ (List.mem_cons_self ..)), F.fr1 (List.mem_cons_self ..), F.fr1 (List.mem_cons_of_mem _ (List.mem_cons_of_mem _ (List.mem_cons_of_mem _ (List.mem_cons_of_mem _ (List.mem_cons_of_mem _ (List.mem_cons_of_mem _ (List.mem_cons_self ..))))))), F.fr1 (List.mem_cons_of_mem _ (List.mem_cons_of_mem _ (List.mem_cons_of_mem _ (List.mem_cons_of_mem _ (List.mem_cons_self ..))))), F.fr1 (List.mem_cons_of_mem _ (List.mem_cons_of_mem _ (List.mem_cons_of_mem _ (List.mem_cons_self ..)))), F.fr1 (List.mem_cons_of_mem _ (List.mem_cons_of_mem _ (List.mem_cons_self ..))), F.fr1 (List.mem_cons_of_mem _ (List.mem_cons_of_mem _ (List.mem_cons_of_mem _ (List.mem_cons_of_mem _ (List.mem_cons_of_mem _ (List.mem_cons_self ..))))))⟩
        rw [C.size]
        exact (hmap _ (F.sget (List.mem_cons_of_mem _ (List.mem_cons_of_mem _ (List.mem_cons_of_mem _ (List.mem_cons_of_mem _ (List.mem_cons_of_mem _ (List.mem_cons_self ..)))))))).intMap
theorem mk_engN {g : BG} (hA : AOk A 30) (X : Top w hp) (T : TabOk hp) (C : Chs chars) (hv : v = .str (strOf chars) t1 ∨ v = .bytes chars t1)
    (hQ : ∀ h' (g' : BG) t' p e, KeepsG hp h' → TabOk h' → Eng (strike h') p e chars big → EngNew hp p e → Q (.ref e) ⟨h', g', d, t', os⟩) :
    wpAny (model pg w) A (call (.ref 294) [v, .bool big]) Q E ⟨hp, g, d, t, os⟩ := by
  have hm : makesIn (K1 w.params) 294 = true := by kernel_rfl
  have hi : findIn (K1 w.params) (.ref 294) "__init__" = some (some (.ref 106)) := by kernel_rfl
  have hf : typeIn (K1 w.params) (.ref 106) = some (.type "function") := by kernel_rfl
  refine wpAny_call (make_core (makes_of X hm) (looks_findIn X hi) (fun self => bind_fn X self hf) (.inl rfl) ?_)
  have k2 : Keeps hp ((hp.push emptyDict).push (instObj 294 hp.objs.size)) := fun b o e => Heap.get?_push_of_some _ (Heap.get?_push_of_some _ e)
  have hlt : ∀ b ∈ tabs, b < hp.objs.size := fun b q => let ⟨o, e⟩ := T.live b q; Heap.lt_size e
  have fr : ∀ a, hp.objs.size ≤ a → hp.get? a = none := fun a ha => by
    cases e : hp.get? a with
    | none => rfl
    | some o => exact absurd (Heap.lt_size e) (Nat.not_lt.mpr ha)
  have hD : ((hp.push emptyDict).push (instObj 294 hp.objs.size)).get? hp.objs.size = some (dictOf [] 0) := Heap.get?_push_of_some _ (Heap.get?_push_size _ rfl)
  have he : ((hp.push emptyDict).push (instObj 294 hp.objs.size)).get? (hp.objs.size + 1) = some (instObj 294 hp.objs.size) := by heap_get
  refine codeAny_mono (init_codeN (big := big) (C := C) (Q := fun v s' => v = .none ∧ Q (.ref (hp.objs.size + 1)) s') (E := fun _ _ => False) ?_ X (T.keeps fun b _ o e => k2 b o e) k2 ?_ (fr _ (Nat.le_refl _)) (fr _ (Nat.le_succ _)) (Nat.ne_of_lt (Nat.lt_succ_self _)) (fun q => Nat.lt_irrefl _ (hlt _ q)) (fun q => Nat.not_lt.mpr (Nat.le_succ _) (hlt _ q)) hD he hv ?_) ?_
  · have hw : (Code.builtin "type.__call__" ⟨[.ref 294, v, .bool big], []⟩).weight = 1 := by kernel_rfl
    have hu : (Code.builtin "type.__call__" ⟨[.ref 294, v, .bool big], []⟩).cUnits = 1 := by kernel_rfl
    refine ⟨hA.hd, ?_, ?_⟩
    · show A.depth + (Code.builtin "type.__call__" ⟨[.ref 294, v, .bool big], []⟩).weight + 28 ≤ 600
      have := hA.dp
      rw [hw]; omega
    · show A.units + (Code.builtin "type.__call__" ⟨[.ref 294, v, .bool big], []⟩).cUnits + 8 * 28 ≤ 400
      have := hA.un
      rw [hu]; omega
  · rw [Heap.size_push, Heap.size_push]; omega
  · intro h' g' t' p k T' H N
    exact ⟨rfl, hQ h' g' t' p _ k T' H N⟩
  · intro r s' q
    cases r with
    | error e => exact q.elim
    | ok f => cases f with
      | ret v => exact q
      | _ => exact q.elim
end
end
end
section
section
def encDig (big : Bool) (b : Array UInt8) : List Nat := (List.range (encN b.size)).map fun k => (if big then outB else outL) (natsOf b) k
def spoilL (big : Bool) (j : Nat) (vs : List Nat) : List Nat := vs.dropLast ++ [vs.getLastD 0 + spoA big (freeN vs.length) j]
theorem encArr_dig (chars : Array UInt8) (big : Bool) (b : Array UInt8) : encArr chars big b = wordB chars (encDig big b) := by
  unfold encArr wordB encDig outArr
  rw [List.map_map]
  congr 1
  refine List.map_congr_left fun k _ => ?_
  show ((chars.getD _ 0).toNat).toUInt8 = chars.getD _ 0
  simp
theorem list8 {α : Type} {P : List α → Prop} (h0 : P []) (h1 : ∀ a, P [a]) (h2 : ∀ a b, P [a, b]) (h3 : ∀ a b c, P [a, b, c]) (h4 : ∀ a b c d, P [a, b, c, d]) (h5 : ∀ a b c d e, P [a, b, c, d, e]) (h6 : ∀ a b c d e f, P [a, b, c, d, e, f])
   (h8 : ∀ a b c d e f g i, P [a, b, c, d, e, f, g, i]) (l : List α) (hl : l.length ≤ 6 ∨ l.length = 8) : P l := by
  match l, hl with
  | [], _ => exact h0
  | [a], _ => exact h1 a
  | [a, b], _ => exact h2 a b
  | [a, b, c], _ => exact h3 a b c
  | [a, b, c, d], _ => exact h4 a b c d
  | [a, b, c, d, e], _ => exact h5 a b c d e
  | [a, b, c, d, e, f], _ => exact h6 a b c d e f
  | [a, b, c, d, e, f, g, i], _ => exact h8 a b c d e f g i
  | [a, b, c, d, e, f, g], h => simp at h
  | a :: b :: c :: d :: e :: f :: g :: i :: j :: r, h => simp at h
/-- the digits by halves: what the word says of numbers -/
def digX (big : Bool) (xs : List Nat) : List Nat := (List.range (encN xs.length)).map fun k => (if big then outB else outL) xs k
def lawX (big : Bool) (xs : List Nat) : List Nat := (List.range (lawCnt xs.length)).map fun i => (if big then (xs.foldl (fun n x => n * 256 + x) 0) * 2 ^ (6 * lawCnt xs.length - 8 * xs.length) else xs.foldr (fun x n => x + 256 * n) 0) / 2 ^ (6 * (if big then lawCnt xs.length - 1 - i else i)) % 64
theorem digX_law (big : Bool) (xs : List Nat) (hl : xs.length ≤ 6 ∨ xs.length = 8) (hx : ∀ x ∈ xs, x < 256) : digX big xs = lawX big xs := by
  revert hx
  refine list8 (P := fun xs => (∀ x ∈ xs, x < 256) → digX big xs = lawX big xs) ?_ ?_ ?_ ?_ ?_ ?_ ?_ ?_ xs hl <;> intros <;> rename_i hx <;> simp only [List.mem_cons, List.not_mem_nil, or_false, forall_eq_or_imp, forall_eq] at hx <;> cases big <;>
    simp [digX, lawX, encN, tl, lawCnt, outL, outB, List.range, List.range.loop, List.foldl, List.foldr] <;> (try omega)

def LastOk (big : Bool) (f last : Nat) : Prop := if big then last < 64 ∧ last % 2 ^ f = 0 else last < 2 ^ (6 - f)
theorem digX_last (big : Bool) (xs : List Nat) (h0 : xs ≠ []) (hl : xs.length ≤ 6 ∨ xs.length = 8) (hx : ∀ x ∈ xs, x < 256) : LastOk big (freeN (digX big xs).length) ((digX big xs).getLastD 0) := by
  revert h0 hx
  refine list8 (P := fun xs => xs ≠ [] → (∀ x ∈ xs, x < 256) → LastOk big (freeN (digX big xs).length) ((digX big xs).getLastD 0)) ?_ ?_ ?_ ?_ ?_ ?_ ?_ ?_ xs hl <;> intros <;> rename_i h0 hx <;> simp only [List.mem_cons, List.not_mem_nil, or_false, forall_eq_or_imp, forall_eq] at hx <;> cases big <;>
    simp [digX, encN, tl, outL, outB, List.range, List.range.loop, LastOk, freeN] at h0 ⊢ <;> (try omega)
theorem digX_dec (big : Bool) (xs : List Nat) (j : Nat) (h0 : xs ≠ []) (hl : xs.length ≤ 6 ∨ xs.length = 8) (hx : ∀ x ∈ xs, x < 256) (hj : j < 2 ^ freeN (digX big xs).length) :
    (List.range xs.length).map (decF big (spoilL big j (digX big xs))) = xs := by
  revert h0 hx hj
  refine list8 (P := fun xs => xs ≠ [] → (∀ x ∈ xs, x < 256) → j < 2 ^ freeN (digX big xs).length → (List.range xs.length).map (decF big (spoilL big j (digX big xs))) = xs) ?_ ?_ ?_ ?_ ?_ ?_ ?_ ?_ xs hl <;> intros <;> rename_i h0 hx hj <;> simp only [List.mem_cons, List.not_mem_nil, or_false, forall_eq_or_imp, forall_eq] at hx <;> cases big <;>
    simp [digX, encN, tl, outL, outB, List.range, List.range.loop, freeN, spoilL, spoA, decF, decL, decB] at h0 hj ⊢ <;> (try omega)
theorem digX_lt (big : Bool) (xs : List Nat) (hx : ∀ x ∈ xs, x < 256) : ∀ v ∈ digX big xs, v < 64 := by
  have hg : ∀ j, xs.getD j 0 < 256 := fun j => by
    rw [List.getD_eq_getElem?_getD]
    cases e : xs[j]? with
    | none => decide
    | some x => exact hx x (List.mem_of_getElem? e)
  intro v hv
  obtain ⟨k, _, rfl⟩ := List.mem_map.mp hv
  have a := hg (3 * (k / 4)); have b := hg (3 * (k / 4) + 1); have c := hg (3 * (k / 4) + 2)
  cases big
  · simp only [Bool.false_eq_true, if_false]
    unfold outL
    split <;> omega
  · simp only [if_true]
    unfold outB
    split <;> omega
theorem last_bits (big : Bool) (n last j : Nat) (h : LastOk big (freeN n) last) (hj : j < 2 ^ freeN n) : last + spoA big (freeN n) j < 64 ∧ pzB (padBx big n) (last + spoA big (freeN n) j) = (j == 0) ∧ fixD (padBx big n) (last + spoA big (freeN n) j) = last := by
  have hA : ∀ q < 4, ∀ j < 16, (16 * q + j < 64 ∧ pzB 15 (16 * q + j) = (j == 0) ∧ fixD 15 (16 * q + j) = 16 * q) ∧ (q + j * 4 < 64 ∧ pzB 60 (q + j * 4) = (j == 0) ∧ fixD 60 (q + j * 4) = q) := by decide +kernel
  have hB : ∀ q < 16, ∀ j < 4, (4 * q + j < 64 ∧ pzB 3 (4 * q + j) = (j == 0) ∧ fixD 3 (4 * q + j) = 4 * q) ∧ (q + j * 16 < 64 ∧ pzB 48 (q + j * 16) = (j == 0) ∧ fixD 48 (q + j * 16) = q) := by decide +kernel
  have hC : ∀ q < 64, pzB 0 q = true ∧ fixD 0 q = q := by decide +kernel
  unfold freeN at hj h ⊢
  unfold padBx padB2 padB3 spoA
  cases big <;> unfold LastOk at h <;> simp only [Bool.false_eq_true, if_false, if_true] at h ⊢ <;> by_cases h2 : n % 4 = 2
  · simp only [h2, if_true] at h hj ⊢
    exact (hA last (by simpa using h) j (by simpa using hj)).2
  · by_cases h3 : n % 4 = 3
    · simp only [h2, h3, if_true, if_false] at h hj ⊢
      exact (hB last (by simpa using h) j (by simpa using hj)).2
    · simp only [h2, h3, if_false] at h hj ⊢
      have e : j = 0 := by simpa using hj
      subst e
      have hh : last < 64 := by simpa using h
      have := hC last hh
      refine ⟨by omega, ?_, ?_⟩
      · simpa using this.1
      · simpa using this.2
  · simp only [h2, if_true] at h hj ⊢
    have hh : last < 64 ∧ last % 16 = 0 := by simpa using h
    have := (hA (last / 16) (by omega) j (by simpa using hj)).1
    rw [show 16 * (last / 16) = last by omega] at this
    exact this
  · by_cases h3 : n % 4 = 3
    · simp only [h2, h3, if_true, if_false] at h hj ⊢
      have hh : last < 64 ∧ last % 4 = 0 := by simpa using h
      have := (hB (last / 4) (by omega) j (by simpa using hj)).1
      rw [show 4 * (last / 4) = last by omega] at this
      exact this
    · simp only [h2, h3, if_false] at h hj ⊢
      have e : j = 0 := by simpa using hj
      subst e
      have hh : last < 64 := by have := h.1; exact this
      have := hC last hh
      refine ⟨by omega, ?_, ?_⟩
      · simpa using this.1
      · simpa using this.2

theorem leN_foldr : ∀ l : List UInt8, leN l = (l.map (·.toNat)).foldr (fun x n => x + 256 * n) 0
  | [] => rfl
  | c :: r => by rw [List.map_cons, List.foldr_cons, ← leN_foldr r]; rfl
theorem leN_foldl (l : List UInt8) : leN l.reverse = (l.map (·.toNat)).foldl (fun n x => n * 256 + x) 0 := by
  rw [leN_foldr, List.map_reverse, List.foldr_reverse]
  congr 1
  funext n x
  omega
theorem natsOf_len (b : Array UInt8) : (natsOf b).length = b.size := by simp [natsOf]
theorem natsOf_mem (b : Array UInt8) : ∀ x ∈ natsOf b, x < 256 := by
  intro x hx
  obtain ⟨c, _, rfl⟩ := List.mem_map.mp hx
  exact UInt8.toNat_lt c
theorem lawDig_X (big : Bool) (b : Array UInt8) : lawDig big b = lawX big (natsOf b) := by
  unfold lawDig lawX lawVal
  rw [natsOf_len, leN_foldl, leN_foldr]
  rfl
theorem encDig_X (big : Bool) (b : Array UInt8) : encDig big b = digX big (natsOf b) := by
  unfold encDig digX; rw [natsOf_len]
theorem enc_law (big : Bool) (b : Array UInt8) (hb : b.size ≤ 6 ∨ b.size = 8) : digX big (natsOf b) = lawDig big b := by
  rw [lawDig_X]; exact digX_law big _ (by rw [natsOf_len]; exact hb) (natsOf_mem b)
theorem encArr_law (chars : Array UInt8) (big : Bool) (b : Array UInt8) (hb : b.size ≤ 6 ∨ b.size = 8) : encArr chars big b = wordB chars (lawDig big b) := by
  rw [encArr_dig, encDig_X, enc_law big b hb]
theorem lawDig_len (big : Bool) (b : Array UInt8) : (lawDig big b).length = lawCnt b.size := by simp [lawDig]
theorem lawDig_lt (big : Bool) (b : Array UInt8) : ∀ v ∈ lawDig big b, v < 64 := by
  intro v hv
  obtain ⟨k, _, rfl⟩ := List.mem_map.mp hv
  exact Nat.mod_lt _ (by decide)
theorem u8_nats (b : Array UInt8) : ((natsOf b).map fun x => x.toUInt8).toArray = b := by
  simp [natsOf, List.map_map, Function.comp_def]
theorem decN_cnt (n : Nat) : decN (lawCnt n) = n := by
  unfold decN lawCnt tld; omega
structure Spoils (big : Bool) (b : Array UInt8) (j : Nat) : Prop where
  lt : (lawDig big b).getLastD 0 + spoA big (freeN (lawCnt b.size)) j < 64
  flag : pzB (padBx big (lawCnt b.size)) ((lawDig big b).getLastD 0 + spoA big (freeN (lawCnt b.size)) j) = (j == 0)
  fix : fixL (padBx big (lawCnt b.size)) (spoilL big j (lawDig big b)) = lawDig big b
  dec : decArr big (spoilL big j (lawDig big b)) (lawCnt b.size) = b
  dlt : ∀ i < decN (lawCnt b.size), decF big (spoilL big j (lawDig big b)) i < 256
  ne : lawDig big b ≠ []
  len : (spoilL big j (lawDig big b)).length = lawCnt b.size
  vlt : ∀ v ∈ spoilL big j (lawDig big b), v < 64
  one : lawCnt b.size % 4 ≠ 1
theorem spoils (big : Bool) (b : Array UInt8) (j : Nat) (h0 : b.size ≠ 0) (hb : b.size ≤ 6 ∨ b.size = 8) (hj : j < 2 ^ freeN (lawCnt b.size)) : Spoils big b j := by
  have hl := hb
  rw [← natsOf_len] at hl
  have hn : natsOf b ≠ [] := fun e => h0 (by rw [← natsOf_len, e]; rfl)
  have hlen := lawDig_len big b
  have hlast := digX_last big (natsOf b) hn hl (natsOf_mem b)
  have hdec := fun hj => digX_dec big (natsOf b) j hn hl (natsOf_mem b) hj
  rw [enc_law big b hb, hlen] at hlast hdec
  replace hdec := hdec hj
  rw [natsOf_len] at hdec
  obtain ⟨a1, a2, a3⟩ := last_bits big _ _ j hlast hj
  have hne : lawDig big b ≠ [] := fun e => by
    have := hlen; rw [e] at this; unfold lawCnt at this; simp at this; omega
  have hsl : (spoilL big j (lawDig big b)).length = lawCnt b.size := by
    unfold spoilL; rw [List.length_append, List.length_dropLast, hlen]; simp; unfold lawCnt; omega
  have hvl : (spoilL big j (lawDig big b)).getLastD 0 = (lawDig big b).getLastD 0 + spoA big (freeN (lawCnt b.size)) j := by
    unfold spoilL; rw [hlen]; simp
  refine ⟨a1, a2, ?_, ?_, ?_, hne, hsl, ?_, ?_⟩
  · unfold fixL
    rw [hvl, a3]
    unfold spoilL
    rw [List.dropLast_concat]
    cases e : lawDig big b with
    | nil => exact absurd e hne
    | cons x r => 
      have := List.dropLast_concat_getLast (l := x :: r) (by simp)
      rw [List.getLastD_cons, ← List.getLast_eq_getLastD (by simp)]
      exact this
  · unfold decArr outArr
    rw [decN_cnt]
    have e : (List.range b.size).map (fun i => (decF big (spoilL big j (lawDig big b)) i).toUInt8) = (natsOf b).map fun x => x.toUInt8 := by
      conv => rhs; rw [← hdec]
      rw [List.map_map]; rfl
    rw [e]; exact u8_nats b
  · intro i hi
    rw [decN_cnt] at hi
    refine natsOf_mem b _ ?_
    rw [← hdec]
    exact List.mem_map.mpr ⟨i, List.mem_range.mpr hi, rfl⟩
  · intro v hv
    unfold spoilL at hv
    rcases List.mem_append.mp hv with h | h
    · exact lawDig_lt big b v ((List.dropLast_sublist _).subset h)
    · rw [List.mem_singleton.mp h, hlen]; exact a1
  · unfold lawCnt; rcases hb with h | h
    · omega
    · rw [h]; decide
def octs (big : Bool) (k x : Nat) : Array UInt8 := if big then (leL k x).reverse.toArray else (leL k x).toArray
theorem octs_size (big : Bool) (k x : Nat) : (octs big k x).size = k := by
  unfold octs; cases big <;> simp [leL_length]
theorem lawVal_octs (big : Bool) (k x : Nat) (hx : x < 256 ^ k) : lawVal big (octs big k x) = if big then x * 2 ^ (6 * lawCnt k - 8 * k) else x := by
  unfold lawVal
  rw [octs_size]
  unfold octs
  cases big
  · simp [leN_leL k x hx]
  · simp [leN_leL k x hx]
theorem dig11_law (big : Bool) (x : Nat) (hx : x < 2 ^ 64) : (List.range 11).map (dig11 big x) = lawDig big (octs big 8 x) := by
  unfold lawDig
  rw [octs_size, lawVal_octs big 8 x (by omega)]
  show _ = (List.range 11).map _
  refine List.map_congr_left fun k hk => ?_
  have hk := List.mem_range.mp hk
  unfold dig11 offN
  cases big
  · rfl
  · simp only [if_true]
    rw [show 6 * (lawCnt 8 - 1 - k) = 60 - 6 * k by unfold lawCnt; omega]; rfl
theorem dig4_law (big : Bool) (x : Nat) (hx : x < 2 ^ 24) : (List.range 4).map (dig4 big x) = lawDig big (octs big 3 x) := by
  unfold lawDig
  rw [octs_size, lawVal_octs big 3 x (by omega)]
  cases big <;> simp [lawCnt, dig4, List.range, List.range.loop]
theorem outArr_word (chars : Array UInt8) (f : Nat → Nat) (n : Nat) : outArr (fun k => (chars.getD (f k) 0).toNat) n = wordB chars ((List.range n).map f) := by
  unfold outArr wordB
  rw [List.map_map]
  congr 1
  refine List.map_congr_left fun k _ => ?_
  show ((chars.getD _ 0).toNat).toUInt8 = chars.getD _ 0
  simp
theorem num4_law (big : Bool) (x : Nat) (hx : x < 2 ^ 24) : num4 big (lawDig big (octs big 3 x)) = x := by
  rw [← dig4_law big x hx]
  cases big <;> simp [num4, dig4, List.range, List.range.loop] <;> omega
theorem accF_dig (f : Nat → Nat) (v : Nat) : ∀ i, i ≤ 11 → (∀ k < i, f k = v / 64 ^ (10 - k) % 64) → accF f i = v / 64 ^ (11 - i) % 64 ^ i
  | 0, _, _ => by simp [accF, Nat.mod_one]
  | i + 1, hi, h => by
    have ih := accF_dig f v i (by omega) fun k hk => h k (by omega)
    show accF f i * 64 + f i = _
    rw [ih, h i (by omega), show 11 - (i + 1) = 10 - i by omega, show 11 - i = (10 - i) + 1 by omega, Nat.pow_succ 64 (10 - i), ← Nat.div_div_eq_div_mul, Nat.pow_succ 64 i, Nat.mul_comm (64 ^ i) 64, Nat.mod_mul]
    omega
theorem accF_first (f f' : Nat → Nat) (c : Nat) (h0 : f' 0 = f 0 + c) : ∀ n, (∀ k, 0 < k → k ≤ n → f' k = f k) → accF f' (n + 1) = accF f (n + 1) + c * 64 ^ n
  | 0, _ => by show 0 * 64 + f' 0 = 0 * 64 + f 0 + c * 1; omega
  | n + 1, h => by
    have ih := accF_first f f' c h0 n fun k a b => h k a (by omega)
    show accF f' (n + 1) * 64 + f' (n + 1) = accF f (n + 1) * 64 + f (n + 1) + c * 64 ^ (n + 1)
    rw [ih, h (n + 1) (by omega) (Nat.le_refl _), Nat.pow_succ, ← Nat.mul_assoc]
    omega
theorem accF_same (f f' : Nat → Nat) : ∀ n, (∀ k < n, f' k = f k) → accF f' n = accF f n
  | 0, _ => rfl
  | n + 1, h => by
    show accF f' n * 64 + f' n = accF f n * 64 + f n
    rw [accF_same f f' n fun k hk => h k (by omega), h n (by omega)]
theorem num11_law (big : Bool) (x j : Nat) (hx : x < 2 ^ 64) (hj : j < 4) : num11 big (spoilL big j (lawDig big (octs big 8 x))) = x := by
  rw [← dig11_law big x hx]
  have hlen : ((List.range 11).map (dig11 big x)).length = 11 := by simp
  have hg : ∀ k, k < 10 → (spoilL big j ((List.range 11).map (dig11 big x))).getD k 0 = dig11 big x k := fun k hk => by
    unfold spoilL
    have : k < ((List.range 11).map (dig11 big x)).dropLast.length := by simp; omega
    rw [List.getD_eq_getElem?_getD, List.getElem?_append_left this, List.getElem?_dropLast]
    rw [if_pos (by rw [hlen]; omega), List.getElem?_map, List.getElem?_range (by omega)]; rfl
  have hl : (spoilL big j ((List.range 11).map (dig11 big x))).getD 10 0 = dig11 big x 10 + spoA big 2 j := by
    unfold spoilL
    rw [List.getD_eq_getElem?_getD, List.getElem?_append_right (by simp)]
    rw [show freeN ((List.range 11).map (dig11 big x)).length = 2 by rw [hlen]; rfl]
    simp [List.getLastD_eq_getLast?, List.range_succ]
  have ds_f : ∀ vs i, ds false vs i = vs.getD (10 - i) 0 := fun _ _ => rfl
  have ds_t : ∀ vs i, ds true vs i = vs.getD i 0 := fun _ _ => rfl
  unfold num11
  cases big
  · simp only [Bool.false_eq_true, if_false]
    rw [show spoA false 2 j = j * 16 by simp [spoA]] at hl
    have e : accF (ds false (spoilL false j ((List.range 11).map (dig11 false x)))) 11 = accF (fun i => dig11 false x (10 - i)) 11 + j * 16 * 64 ^ 10 := by
      refine accF_first _ _ _ ?_ 10 fun k h0 hk => ?_
      · rw [ds_f]; exact hl
      · rw [ds_f]; exact hg _ (by omega)
    have e2 := accF_dig (fun i => dig11 false x (10 - i)) x 11 (Nat.le_refl _) fun k hk => by
      unfold dig11 offN
      simp only [Bool.false_eq_true, if_false]
      rw [show (64 : Nat) = 2 ^ 6 by rfl, ← Nat.pow_mul]
    rw [Nat.sub_self, Nat.pow_zero, Nat.div_one, Nat.mod_eq_of_lt (by omega : x < 64 ^ 11)] at e2
    rw [e, e2]
    omega
  · simp only [if_true]
    rw [show spoA true 2 j = j by simp [spoA]] at hl
    have e : accF (ds true (spoilL true j ((List.range 11).map (dig11 true x)))) 11 = accF (dig11 true x) 11 + j := by
      show accF _ 10 * 64 + ds true _ 10 = accF _ 10 * 64 + dig11 true x 10 + j
      rw [accF_same (dig11 true x) (ds true (spoilL true j ((List.range 11).map (dig11 true x)))) 10 fun k hk => hg k hk, ds_t, hl]
      omega
    have e2 := accF_dig (dig11 true x) (x * 4) 11 (Nat.le_refl _) fun k hk => by
      unfold dig11 offN
      simp only [if_true]
      rw [show (64 : Nat) = 2 ^ 6 by rfl, ← Nat.pow_mul, show 6 * (10 - k) = 60 - 6 * k by omega]
    rw [Nat.sub_self, Nat.pow_zero, Nat.div_one, Nat.mod_eq_of_lt (by omega : x * 4 < 64 ^ 11)] at e2
    rw [e, e2]
    omega
end
section
def piece (l : List UInt8) (k i : Nat) : List UInt8 := padTo ((l.drop (k * i)).take k) k
def hidL (l key : List UInt8) (k i : Nat) : List UInt8 := List.zipWith (· ^^^ ·) (piece l k i) (cycle key k)
theorem padTo_len (l : List UInt8) (k : Nat) : (padTo l k).length = k := by
  unfold padTo; rw [List.length_append, List.length_take, List.length_replicate]; omega
theorem piece_len (l : List UInt8) (k i : Nat) : (piece l k i).length = k := padTo_len _ _
theorem cycle_len (l : List UInt8) (k : Nat) : (cycle l k).length = k := by simp [cycle]
theorem hidL_len (l key : List UInt8) (k i : Nat) : (hidL l key k i).length = k := by
  unfold hidL; rw [List.length_zipWith, piece_len, cycle_len, Nat.min_self]
theorem piece_at (l : List UInt8) (k i j : Nat) (hj : j < k) : (piece l k i)[j]? = some (l.getD (k * i + j) 0) := by
  unfold piece padTo
  rw [List.getElem?_append]
  split
  · rename_i h
    rw [List.getElem?_take, if_pos hj, List.getElem?_take, if_pos hj, List.getElem?_drop, List.getD_eq_getElem?_getD]
    rw [List.length_take, List.length_take, List.length_drop] at h
    rw [List.getElem?_eq_getElem (by omega : k * i + j < l.length), Option.getD_some]
  · rename_i h
    simp only [List.length_take, List.length_drop] at h ⊢
    rw [List.getElem?_replicate, if_pos (by omega), List.getD_eq_getElem?_getD, List.getElem?_eq_none (by omega)]; rfl
theorem cycle_at (key : List UInt8) (k j : Nat) (hj : j < k) : (cycle key k)[j]? = some (key.getD (j % key.length) 0) := by
  unfold cycle
  rw [List.getElem?_map, List.getElem?_range hj]; rfl
theorem hidL_at (l key : List UInt8) (k i j : Nat) (hj : j < k) : (hidL l key k i)[j]? = some (l.getD (k * i + j) 0 ^^^ key.getD (j % key.length) 0) := by
  unfold hidL
  rw [List.getElem?_zipWith, piece_at l k i j hj, cycle_at key k j hj]
theorem xor_back (l key : List UInt8) (k i : Nat) : List.zipWith (· ^^^ ·) (hidL l key k i) (cycle key k) = piece l k i := by
  refine List.ext_getElem? fun j => ?_
  by_cases hj : j < k
  · rw [List.getElem?_zipWith, hidL_at _ _ _ _ _ hj, cycle_at _ _ _ hj, piece_at _ _ _ _ hj]
    show some (_ ^^^ _ ^^^ _) = _
    rw [UInt8.xor_assoc, UInt8.xor_self, UInt8.xor_zero]
  · rw [List.getElem?_eq_none (by rw [List.length_zipWith, hidL_len, cycle_len]; omega), List.getElem?_eq_none (by rw [piece_len]; omega)]
def readL (l : List UInt8) (k n : Nat) : List UInt8 := ((List.range n).map (piece l k)).flatten
theorem readL_succ (l : List UInt8) (k n : Nat) : readL l k (n + 1) = readL l k n ++ piece l k n := by
  unfold readL; rw [List.range_succ, List.map_append, List.flatten_append]; simp
theorem readL_len (l : List UInt8) (k : Nat) : ∀ n, (readL l k n).length = k * n
  | 0 => rfl
  | n + 1 => by rw [readL_succ, List.length_append, readL_len l k n, piece_len, Nat.mul_succ]
theorem readL_at (l : List UInt8) (k : Nat) : ∀ n i, i < k * n → (readL l k n)[i]? = some (l.getD i 0)
  | 0, i, h => by simp at h
  | n + 1, i, h => by
    rw [readL_succ, List.getElem?_append, readL_len]
    split
    · rename_i h; exact readL_at l k n i h
    · rename_i h2
      rw [Nat.mul_succ] at h
      rw [piece_at _ _ _ _ (by omega), show k * n + (i - k * n) = i by omega]
theorem readL_all (l : List UInt8) (k n : Nat) (h : l.length ≤ k * n) : padTo (readL l k n) l.length = l := by
  unfold padTo
  rw [readL_len, show l.length - k * n = 0 by omega, List.replicate_zero, List.append_nil]
  refine List.ext_getElem? fun i => ?_
  rw [List.getElem?_take]
  split
  · rename_i hi
    rw [readL_at l k n i (by omega), List.getD_eq_getElem?_getD, List.getElem?_eq_getElem hi]; rfl
  · rename_i hi
    rw [List.getElem?_eq_none (by omega)]
theorem cut_piece (l : List UInt8) (k i : Nat) (h : k * i ≤ l.length) : cutL l (some ((k * i : Nat) : Int)) (some (((k * i : Nat) : Int) + ((k : Nat) : Int))) = (l.drop (k * i)).take k := by
  unfold cutL clipAt
  simp only [Option.elim]
  have e1 : (max 0 (min (if ((k * i : Nat) : Int) < 0 then ((k * i : Nat) : Int) + (l.length : Int) else ((k * i : Nat) : Int)) (l.length : Int))).toNat = k * i := by
    rw [if_neg (by omega)]; omega
  have e2 : (max 0 (min (if ((k * i : Nat) : Int) + (k : Int) < 0 then ((k * i : Nat) : Int) + (k : Int) + (l.length : Int) else ((k * i : Nat) : Int) + (k : Int)) (l.length : Int))).toNat = min (k * i + k) l.length := by
    rw [if_neg (by omega)]; omega
  rw [e1, e2]
  refine List.ext_getElem? fun j => ?_
  rw [List.getElem?_take, List.getElem?_take, List.getElem?_drop]
  split
  · rename_i h1; rw [if_pos (by omega)]
  · rename_i h1
    split
    · rw [List.getElem?_eq_none (by omega)]
    · rfl
/-- how many pieces -/
def nPieces (n k : Nat) : Nat := (n + k - 1) / k
theorem nP_cover (n k : Nat) (hk : 0 < k) : n ≤ k * nPieces n k := by
  unfold nPieces
  have := Nat.div_add_mod (n + k - 1) k
  have := Nat.mod_lt (n + k - 1) hk
  omega
theorem nP_lt (n k i : Nat) (hk : 0 < k) (hi : i < nPieces n k) : k * i < n := by
  unfold nPieces at hi
  have h1 : i + 1 ≤ (n + k - 1) / k := hi
  have h2 : (i + 1) * k ≤ n + k - 1 := (Nat.le_div_iff_mul_le hk).mp h1
  rw [Nat.add_mul, Nat.one_mul, Nat.mul_comm] at h2
  omega
theorem nP_le (n k : Nat) (hk : 0 < k) : nPieces n k ≤ n := by
  rcases Nat.eq_zero_or_pos (nPieces n k) with h | h
  · omega
  · have := nP_lt n k (nPieces n k - 1) hk (by omega)
    have h3 : nPieces n k - 1 ≤ k * (nPieces n k - 1) := Nat.le_mul_of_pos_left _ hk
    omega
end
section
/-- a word of signs -/
def Wd (t : List Nat) : Prop := t ≠ [] ∧ t.length ≤ 100 ∧ ∀ c ∈ t, 45 < c ∧ c < 123
theorem sp_sign : ∀ c < 123, 43 < c → Unicode.isSpace c = false := by decide +kernel
theorem sp_32 : Unicode.isSpace 32 = true := by decide +kernel
theorem joinL_cons2 (sep x y : List Nat) (r : List (List Nat)) : joinL sep (x :: y :: r) = x ++ sep ++ joinL sep (y :: r) := rfl
theorem joinL_ne {sep : List Nat} : ∀ {ts : List (List Nat)}, ts ≠ [] → (∀ t ∈ ts, Wd t) → joinL sep ts ≠ []
  | [], h, _ => absurd rfl h
  | [x], _, h => (h x (List.mem_cons_self ..)).1
  | x :: y :: r, _, h => by
    rw [joinL_cons2]
    intro e
    simp only [List.append_eq_nil_iff] at e
    exact (h x (List.mem_cons_self ..)).1 e.1.1
theorem joinL_mem {sep : List Nat} {c : Nat} : ∀ {ts : List (List Nat)}, c ∈ joinL sep ts → c ∈ sep ∨ ∃ t ∈ ts, c ∈ t
  | [], h => by cases h
  | [x], h => .inr ⟨x, List.mem_cons_self .., h⟩
  | x :: y :: r, h => by
    rw [joinL_cons2] at h
    rcases List.mem_append.mp h with h | h
    · rcases List.mem_append.mp h with h | h
      · exact .inr ⟨x, List.mem_cons_self .., h⟩
      · exact .inl h
    · rcases joinL_mem h with h | ⟨t, ht, h⟩
      · exact .inl h
      · exact .inr ⟨t, List.mem_cons_of_mem _ ht, h⟩
theorem joinL_last {sep : List Nat} : ∀ {ts : List (List Nat)}, ts ≠ [] → (∀ t ∈ ts, Wd t) → ∀ c, (joinL sep ts).getLast? = some c → 45 < c ∧ c < 123
  | [], h, _, _, _ => absurd rfl h
  | [x], _, h, c, e => (h x (List.mem_cons_self ..)).2.2 c (List.mem_of_getLast? e)
  | x :: y :: r, _, h, c, e => by
    rw [joinL_cons2, List.getLast?_append] at e
    have hn := joinL_ne (sep := sep) (ts := y :: r) (by simp) fun t ht => h t (List.mem_cons_of_mem _ ht)
    have hz := List.getLast?_eq_some_getLast hn
    rw [hz] at e
    refine joinL_last (sep := sep) (ts := y :: r) (by simp) (fun t ht => h t (List.mem_cons_of_mem _ ht)) c ?_
    rw [hz]
    simpa using e
theorem joinL_head {sep : List Nat} : ∀ {ts : List (List Nat)}, ts ≠ [] → (∀ t ∈ ts, Wd t) → ∀ c, (joinL sep ts).head? = some c → 45 < c ∧ c < 123
  | [], h, _, _, _ => absurd rfl h
  | [x], _, h, c, e => (h x (List.mem_cons_self ..)).2.2 c (List.mem_of_head? e)
  | x :: y :: r, _, h, c, e => by
    have hx := h x (List.mem_cons_self ..)
    rw [joinL_cons2] at e
    cases x with
    | nil => exact absurd rfl hx.1
    | cons z x => exact hx.2.2 c (by simp at e; rw [e]; exact List.mem_cons_self ..)
theorem joinL_len {sep : List Nat} (hs : sep.length ≤ 3) : ∀ {ts : List (List Nat)}, (∀ t ∈ ts, Wd t) → (joinL sep ts).length ≤ 103 * ts.length
  | [], _ => by simp [joinL]
  | [x], h => by have := (h x (List.mem_cons_self ..)).2.1; show x.length ≤ 103 * 1; omega
  | x :: y :: r, h => by
    have := (h x (List.mem_cons_self ..)).2.1
    have ih := joinL_len hs (ts := y :: r) fun t ht => h t (List.mem_cons_of_mem _ ht)
    rw [joinL_cons2, List.length_append, List.length_append, List.length_cons]
    omega
theorem wd_strip {t p q : List Nat} (h : Wd t) (hp : ∀ c ∈ p, c = 32) (hq : ∀ c ∈ q, c = 32) : PySem.Txt.strip (strL (p ++ t ++ q)) = strL t :=
  strip_L (fun c hc => by rw [hp c hc]; exact sp_32) (fun c hc => by rw [hq c hc]; exact sp_32) h.1 (fun c hc => by have := h.2.2 c (List.mem_of_head? hc); exact sp_sign c this.2 (by omega)) (fun c hc => by have := h.2.2 c (List.mem_of_getLast? hc); exact sp_sign c this.2 (by omega))
theorem getD_mem {ts : List (List Nat)} {i : Nat} (h : i < ts.length) : ts.getD i [] ∈ ts := by
  rw [List.getD_eq_getElem?_getD, List.getElem?_eq_getElem h]; exact List.getElem_mem h
theorem spl_words {ts : List (List Nat)} (h : ∀ t ∈ ts, Wd t) (hn : ts.length ≤ 64) : SplOk (joinL [44] ts) ts := by
  by_cases h0 : ts = []
  · subst h0
    exact ⟨[], [], [], by simp, by simp [joinL], strip_nil, by simp, .inl ⟨rfl, rfl⟩⟩
  · have hl := joinL_len (sep := [44]) (by simp) h
    have hne := joinL_ne (sep := [44]) h0 h
    have hlast := joinL_last (sep := [44]) h0 h
    refine ⟨joinL [44] ts, joinL [44] ts, ts, by omega, by omega, ?_, ?_, .inr ⟨hne, split_L h0 fun t ht q => ?_, rfl, by omega, fun p hp => by have := (h p hp).2.1; omega, fun i hi => ?_⟩⟩
    · have := strip_L (p := []) (q := []) (m := joinL [44] ts) (by simp) (by simp) hne (fun c hc => by have := joinL_head h0 h c hc; exact sp_sign c this.2 (by omega)) (fun c hc => by have := hlast c hc; exact sp_sign c this.2 (by omega))
      simpa using this
    · rw [if_neg]
      intro e
      have := hlast 44 (by simpa using e)
      omega
    · have := (h t ht).2.2 44 q; omega
    · have := wd_strip (p := []) (q := []) (h _ (getD_mem hi)) (by simp) (by simp)
      simpa using this
theorem join_gap : ∀ (t : List Nat) (ts : List (List Nat)), joinL [32, 44, 32] (t :: ts) ++ [32] = joinL [44] ((t ++ [32]) :: ts.map fun u => [32] ++ u ++ [32])
  | t, [] => rfl
  | t, y :: r => by
    have ih := join_gap ([32] ++ y) r
    rw [joinL_cons2, List.map_cons, joinL_cons2, List.append_assoc, ← ih]
    cases r with
    | nil => simp [joinL]
    | cons z r => simp [joinL_cons2]
theorem spl_spoiled {ts : List (List Nat)} (h : ∀ t ∈ ts, Wd t) (hn : ts.length ≤ 64) : SplOk (([32] ++ joinL [32, 44, 32] ts) ++ [32, 44, 32]) ts := by
  cases ts with
  | nil =>
    exact ⟨[44], [], [], by simp, by simp [joinL], by decide +kernel, by simp, .inl ⟨rfl, rfl⟩⟩
  | cons t r =>
    have hl := joinL_len (sep := [32, 44, 32]) (by simp) h
    have hne := joinL_ne (sep := [32, 44, 32]) (by simp) h
    have hparts : ∀ p ∈ ((t ++ [32]) :: r.map fun u => [32] ++ u ++ [32]), 44 ∉ p := by
      intro p hp q
      rcases List.mem_cons.mp hp with rfl | hp
      · rcases List.mem_append.mp q with q | q
        · have := (h t (List.mem_cons_self ..)).2.2 44 q; omega
        · simp at q
      · obtain ⟨u, hu, rfl⟩ := List.mem_map.mp hp
        rcases List.mem_append.mp q with q | q
        · rcases List.mem_append.mp q with q | q
          · simp at q
          · have := (h u (List.mem_cons_of_mem _ hu)).2.2 44 q; omega
        · simp at q
    refine ⟨joinL [32, 44, 32] (t :: r) ++ [32, 44], joinL [32, 44, 32] (t :: r) ++ [32], (t ++ [32]) :: r.map fun u => [32] ++ u ++ [32], ?_, ?_, ?_, ?_, .inr ⟨by simp, ?_, by simp, by simp at hn ⊢; omega, ?_, fun i hi => ?_⟩⟩
    · rw [List.length_append]; simp at hn hl ⊢; omega
    · rw [List.length_append, List.length_append]; simp at hn hl ⊢; omega
    · have := strip_L (p := [32]) (q := [32]) (m := joinL [32, 44, 32] (t :: r) ++ [32, 44]) (fun c hc => by rw [List.mem_singleton.mp hc]; exact sp_32) (fun c hc => by rw [List.mem_singleton.mp hc]; exact sp_32) (by simp) (fun c hc => by
        have hh : (joinL [32, 44, 32] (t :: r)).head? = some c := by
          cases e : joinL [32, 44, 32] (t :: r) with
          | nil => exact absurd e hne
          | cons x l => rw [e] at hc; simpa using hc
        have := joinL_head (by simp) h c hh; exact sp_sign c this.2 (by omega)) (fun c hc => by
        have : c = 44 := by simpa [List.getLast?_append] using hc.symm
        rw [this]; decide +kernel)
      rw [← this]
      congr 2
      simp
    · rw [if_pos (by simp [List.getLast?_append])]
      rw [show joinL [32, 44, 32] (t :: r) ++ [32, 44] = (joinL [32, 44, 32] (t :: r) ++ [32]) ++ [44] by simp, List.dropLast_concat]
    · rw [join_gap]
      exact split_L (by simp) hparts
    · intro p hp
      rcases List.mem_cons.mp hp with rfl | hp
      · have := (h t (List.mem_cons_self ..)).2.1; rw [List.length_append]; simp; omega
      · obtain ⟨u, hu, rfl⟩ := List.mem_map.mp hp
        have := (h u (List.mem_cons_of_mem _ hu)).2.1; rw [List.length_append, List.length_append]; simp; omega
    · cases i with
      | zero =>
        have := wd_strip (p := []) (q := [32]) (h t (List.mem_cons_self ..)) (by simp) (by simp)
        simpa using this
      | succ i =>
        have hi : i < r.length := by simpa using hi
        have hm := getD_mem hi
        have := wd_strip (p := [32]) (q := [32]) (h _ (List.mem_cons_of_mem _ hm)) (by simp) (by simp)
        rw [List.getD_cons_succ, List.getD_cons_succ, List.getD_eq_getElem?_getD, List.getElem?_map, List.getElem?_eq_getElem hi]
        rw [List.getD_eq_getElem?_getD, List.getElem?_eq_getElem hi] at this ⊢
        exact this
end
end
section
local macro_rules | `(tactic| lcg_off) => `(tactic| (intro $(Lean.mkIdent `h) _ $(Lean.mkIdent `k); (first | replace $(Lean.mkIdent `F) := WkT.kept $(Lean.mkIdent `F) $(Lean.mkIdent `k) | replace $(Lean.mkIdent `F) := Wk.kept $(Lean.mkIdent `F) $(Lean.mkIdent `k)); clear $(Lean.mkIdent `k)))
local macro_rules | `(tactic| lcg_src) => `(tactic| (intro $(Lean.mkIdent `h) _ _ $(Lean.mkIdent `k); (first | replace $(Lean.mkIdent `F) := WkT.kept $(Lean.mkIdent `F) $(Lean.mkIdent `k) | replace $(Lean.mkIdent `F) := Wk.kept $(Lean.mkIdent `F) $(Lean.mkIdent `k)); clear $(Lean.mkIdent `k)))
local macro_rules | `(tactic| x_close) => `(tactic| first
  | exact $(Lean.mkIdent `hk) _ _ Keeps.refl
  | exact $(Lean.mkIdent `hk) _ _ (keeps_of_mem (by assumption))
  | exact $(Lean.mkIdent `hk) _ _ _ Keeps.refl
  | exact $(Lean.mkIdent `hk) _ _ _ (keeps_of_mem (by assumption))
  | (apply $(Lean.mkIdent `hk); assumption)
  | (exact $(Lean.mkIdent `hk) _ _ _ (keeps_of_mem (by assumption)) (X.Mem.nw (by assumption) _ (List.mem_cons_self ..)).1 (X.Mem.nw (by assumption) _ (List.mem_cons_self ..)).2)
)
local macro_rules | `(tactic| tb_rel) => `(tactic| first
  | (with_reducible show wpAny _ _ (eval (Expr.Name _ _) _) _ _ _; first
      | with_reducible refine tL $(Lean.mkIdent `F) (by with_unfolding_all first | rfl | assumption) ?_ (by with_unfolding_all rfl) (by with_unfolding_all rfl) (by with_unfolding_all rfl) (by with_unfolding_all decide)
      | with_reducible refine tC $(Lean.mkIdent `F) (by with_unfolding_all first | rfl | assumption) ?_ (by with_unfolding_all rfl) (by with_unfolding_all rfl) (by with_unfolding_all rfl) (by with_unfolding_all rfl) (by with_unfolding_all decide)
      | with_reducible refine tGl $(Lean.mkIdent `X) $(Lean.mkIdent `F) (by with_unfolding_all rfl) ?_ (by with_unfolding_all rfl) (by with_unfolding_all rfl) (by with_unfolding_all rfl) (by with_unfolding_all rfl) (by with_unfolding_all decide)
      | with_reducible refine wL $(Lean.mkIdent `F) (by with_unfolding_all first | rfl | assumption) ?_ (by with_unfolding_all rfl) (by with_unfolding_all rfl) (by with_unfolding_all rfl) (by with_unfolding_all decide)
      | with_reducible refine wFr $(Lean.mkIdent `F) (by with_reducible assumption) (by with_unfolding_all first | rfl | assumption) ?_ (by with_unfolding_all rfl) (by with_unfolding_all rfl) (by with_unfolding_all rfl) (by with_unfolding_all decide) (by with_unfolding_all decide)
      | with_reducible refine wGl $(Lean.mkIdent `X) $(Lean.mkIdent `F) (by with_unfolding_all rfl) ?_ (by with_unfolding_all rfl) (by with_unfolding_all rfl) (by with_unfolding_all rfl) (by with_unfolding_all rfl) (by with_unfolding_all decide))
  | (with_reducible show wpAny _ _ (eval _ _) _ _ _; first
      | with_reducible refine e_int ?_
      | with_reducible refine e_str ?_
      | with_reducible refine wpAny_BinOp ?_
      | with_reducible refine wpAny_Compare1 ?_
      | with_reducible refine wpAny_UnaryOp ?_
      | with_reducible refine callN ?_
      | with_reducible refine sub_sl ?_
      | with_reducible refine sub_ix ?_
      | with_reducible refine s_ifx ?_
      | with_reducible refine Attribute_name ?_
      | with_reducible refine e_bool ?_
      | with_reducible refine e_none ?_)
  | (with_reducible show wpAny _ _ (execs _ _) _ _ _; first
      | with_reducible refine s_cons ?_
      | with_reducible refine s_nil ?_)
  | (with_reducible show wpAny _ _ (exec _ _) _ _ _; first
      | with_reducible refine wpAny_Assign_Name ?_ (by with_unfolding_all rfl)
      | with_reducible refine s_if ?_
      | with_reducible refine wpAny_Return_some ?_
      | with_reducible refine wpAny_AugAssign_Name ?_
      | with_reducible refine s_for ?_ (by intro _; with_unfolding_all rfl)
      | with_reducible refine wpAny_Assert_holds ?_)
  | (with_reducible show wpAny _ _ (storeName _ _ _) _ _ _; first
      | (with_reducible refine tstL $(Lean.mkIdent `F) ?_ (by with_unfolding_all rfl) (by with_unfolding_all rfl) (by with_unfolding_all rfl); clear $(Lean.mkIdent `F); intro _ _ $(Lean.mkIdent `F))
      | (with_reducible refine tstC $(Lean.mkIdent `F) ?_ (by with_unfolding_all rfl) (by with_unfolding_all rfl) (by with_unfolding_all rfl) (by with_unfolding_all rfl); clear $(Lean.mkIdent `F); intro _ _ $(Lean.mkIdent `F))
      | (with_reducible refine wstL $(Lean.mkIdent `F) ?_ (by with_unfolding_all rfl) (by with_unfolding_all rfl) (by with_unfolding_all rfl); clear $(Lean.mkIdent `F); intro _ _ $(Lean.mkIdent `F)))
  | (with_reducible show wpAny _ _ (loadName _ _) _ _ _; first
      | with_reducible refine tldL $(Lean.mkIdent `F) (by with_unfolding_all first | rfl | assumption) ?_ (by with_unfolding_all rfl) (by with_unfolding_all rfl) (by with_unfolding_all rfl)
      | with_reducible refine tldC $(Lean.mkIdent `F) (by with_unfolding_all first | rfl | assumption) ?_ (by with_unfolding_all rfl) (by with_unfolding_all rfl) (by with_unfolding_all rfl) (by with_unfolding_all rfl)
      | with_reducible refine wldL $(Lean.mkIdent `F) (by with_unfolding_all first | rfl | assumption) ?_ (by with_unfolding_all rfl) (by with_unfolding_all rfl) (by with_unfolding_all rfl))
  | (with_reducible show wpAny _ _ (spliced _) _ _ _; first
      | with_reducible refine wpAny_items_cons ?_ (by with_unfolding_all rfl)
      | with_reducible refine wpAny_items_nil ?_)
  | (with_reducible show wpAny _ _ (callWith _ _ _ _ _) _ _ _; first
      | with_reducible refine callB ?_ (by with_unfolding_all rfl) (by with_unfolding_all rfl)
      | with_reducible refine callT ?_ (by with_unfolding_all rfl) (by with_unfolding_all rfl)
      | with_reducible refine callKn $(Lean.mkIdent `X) (by kernel_rfl) ?_ (by with_unfolding_all rfl) (by with_unfolding_all rfl))
  | (with_reducible show wpAny _ _ (isTrue _ _ _) _ _ _; first
      | with_reducible refine wpAny_isTrue_Compare1 ?_
      | with_reducible refine wpAny_isTrue_Not ?_
      | with_reducible refine wpAny_isTrue_BoolOp ?_
      | with_reducible refine wpAny_isTrue_value ?_ (by with_unfolding_all rfl))
  | (with_reducible show wpAny _ _ (truthy _) _ _ _; first
      | with_reducible refine t_bool ?_
      | with_reducible refine t_int ?_)
  | (with_reducible show wpAny _ _ (compareOp _ _ _) _ _ _; first
      | with_reducible refine i_eq ?_
      | with_reducible refine i_ne ?_
      | with_reducible refine i_lt ?_
      | with_reducible refine i_gt ?_
      | with_reducible refine i_ge ?_
      | with_reducible refine is_nn ?_)
  | (with_reducible show wpAny _ _ (binaryOp _ _ _) _ _ _; first
      | (with_reducible refine n_and63 ?_; intro _ _)
      | (with_reducible refine n_and15 ?_; intro _ _)
      | (with_reducible refine n_and3 ?_; intro _ _)
      | (with_reducible refine n_or ?_; intro _ _)
      | (with_reducible refine n_shr2 ?_; intro _ _)
      | (with_reducible refine n_shr4 ?_; intro _ _)
      | (with_reducible refine n_shr6 ?_; intro _ _)
      | (with_reducible refine n_shl2 (by omega) ?_; intro _ _)
      | (with_reducible refine n_shl4 (by omega) ?_; intro _ _)
      | (with_reducible refine n_shl6 (by omega) ?_; intro _ _)
      | (with_reducible refine i_add ?_; intro _ _)
      | (with_reducible refine i_sub ?_; intro _ _)
      | (with_reducible refine i_and ?_; intro _ _)
      | (with_reducible refine i_or ?_; intro _ _)
      | (with_reducible refine i_xor ?_; intro _ _))
  | (with_reducible show wpAny _ _ (inplaceOp _ _ _) _ _ _; first
      | (with_reducible refine i_iand ?_; intro _ _)
      | (with_reducible refine i_ior ?_; intro _ _)
      | (with_reducible refine i_iadd ?_; intro _ _))
  | (with_reducible show wpAny _ _ (unaryOp _ _) _ _ _; first
      | (with_reducible refine i_neg ?_; intro _ _)
      | (with_reducible refine i_inv ?_; intro _ _))
  | (with_reducible show wpAny _ _ (evalPart _ _) _ _ _; first
      | with_reducible refine part0 ?_
      | with_reducible refine part1 ?_)
  | with_reducible refine then_next ?_
  | with_reducible refine then_ret ?_
  | with_reducible refine br_t ?_
  | with_reducible refine br_f ?_
  | with_reducible refine br_nt ?_
  | with_reducible refine br_nf ?_
  | with_reducible refine And.intro (fun _ => WkT.top $(Lean.mkIdent `F) $(Lean.mkIdent `X)) ?_
  | with_reducible refine And.intro (fun _ => Wk.top $(Lean.mkIdent `F) $(Lean.mkIdent `X)) ?_
  | with_reducible refine retQ ?_
  | with_reducible refine brE_t ?_
  | with_reducible refine brE_f ?_)
section
abbrev LEnv (L : Addr) : Env := callEnvC fd322S.1 L 322
abbrev LCs (L : Addr) : List (Str × Addr) := cellsFrom (L + 1) fd322S.1.scope.names []
def B322 (n : Nat) : List Stmt := (bodyOf fd322S.1).drop n
abbrev listO (ys : Array Value) (n : Nat) : Obj := ⟨.type "list", none, .seq ys n, #[]⟩
def engNews (p : EngP) (e : Addr) (chars : Array UInt8) (big : Bool) (od : Obj) : List (Addr × Obj) :=
  [(e, instObj 294 p.D), (p.D, engDict p chars big), (p.q1, wrapObj "bytes.__getitem__" (.bytes chars p.tc)), (p.q2, bmObj "dict.__getitem__" (.ref p.dd)), (p.q3, methodObj (.ref (if big then 135 else 128)) (.ref e)), (p.q4, methodObj (.ref (if big then 156 else 149)) (.ref e)), (p.dd, od)]
/-- the table of an engine, told by the object itself -/
structure EngTab (chars : Array UInt8) (od : Obj) : Prop where
  go : ∃ (F : Int → Option Value) (h : Heap) (a : Addr), h.get? a = some od ∧ h.IntMap a F ∧ ∀ i < chars.size, ∃ u, F ((chars.getD i 0).toNat : Int) = some (.int (i : Int) u)
section
variable {w : World} {A : Around} {M : Model} {env : Env} {s : Shared} {E : Value → Shared → Prop} {Q : Value → Shared → Prop} {hp h h₀ h' hz : Heap} {g : Array GenState} {d : Drawn} {t : Nat} {os : OsState} {m cm : Str → Option Value} {news : List (Addr × Obj)} {L : Addr} {cs : List (Str × Addr)} {p : EngP} {e : Addr} {chars : Array UInt8} {big : Bool} {od : Obj}
theorem eng_of (F : WkT h₀ L cs hz h m cm news) (tab : EngTab chars od) (hs : chars.size = 64) (hn : ∀ x ∈ engNews p e chars big od, x ∈ news) : Eng (strike h) p e chars big where
  self := F.sget (hn _ (by simp [engNews]))
  dict := F.sget (hn _ (by simp [engNews]))
  w1 := F.sget (hn _ (by simp [engNews]))
  w2 := F.sget (hn _ (by simp [engNews]))
  w3 := F.sget (hn _ (by simp [engNews]))
  w4 := F.sget (hn _ (by simp [engNews]))
  map := by
    obtain ⟨G, h2, a, ha, ⟨o, es, ep, ho, x⟩, r⟩ := tab.go
    rw [ha] at ho; cases ho
    exact ⟨G, ⟨od, es, ep, F.sget (hn _ (by simp [engNews])), x⟩, r⟩
  size := hs
theorem Eng.out (H : Eng (strike h) p e chars big) : Eng h p e chars big := H.keep fun b o q => (strike_of q).2
/-- an engine just made, laid among the news -/
theorem eng_news {hz2 h2 : Heap} {news2 : List (Addr × Obj)} {m2 cm2 : Str → Option Value} (F2 : WkT h₀ L cs hz2 h2 m2 cm2 news2) (F : WkT h₀ L cs h h m cm news) (H : Eng (strike h) p e chars big) (N : EngNew h2 p e) :
    ∃ od, EngTab chars od ∧ WkT h₀ L cs h h m cm (engNews p e chars big od ++ news) := by
  have H' := H.out
  obtain ⟨G, ⟨od, es, ep, hod, a, b, c, q⟩, r⟩ := H'.map
  refine ⟨od, ⟨G, _, _, hod, ⟨od, es, ep, hod, a, b, c, q⟩, r⟩, ?_⟩
  exact ((((((F.ownIn hod (F2.ownNew N.n6.1)).ownIn H'.w4 (F2.ownNew N.n5.1)).ownIn H'.w3 (F2.ownNew N.n4.1)).ownIn H'.w2 (F2.ownNew N.n3.1)).ownIn H'.w1 (F2.ownNew N.n2.1)).ownIn H'.dict (F2.ownNew N.n1.1)).ownIn H'.self (F2.ownNew N.n0.1)
theorem at_cons {st : Stmt} {rest : List Stmt} {Q : Flow → Shared → Prop} (k : wpAny M A (execs (st :: rest) env) Q E s) : wpAny M A (execs (st :: rest) env) Q E s := k
theorem and_t {x : PySem.Expr} {rest : List PySem.Expr} {Q : Bool → Shared → Prop} (k : wpAny M A (isTrue x env (eval x env)) (fun b s₁ => b = true ∧ wpAny M A (allTrue .And rest env) Q E s₁) E s) : wpAny M A (allTrue .And (x :: rest) env) Q E s :=
  wpAny_allTrue_And_cons (wpAny_mono k (fun b s₁ q => by obtain ⟨rfl, q⟩ := q; exact q) fun _ _ x => x)
theorem and_f {x : PySem.Expr} {rest : List PySem.Expr} {Q : Bool → Shared → Prop} (k : wpAny M A (isTrue x env (eval x env)) (fun b s₁ => b = false ∧ Q false s₁) E s) : wpAny M A (allTrue .And (x :: rest) env) Q E s :=
  wpAny_allTrue_And_cons (wpAny_mono k (fun b s₁ q => by obtain ⟨rfl, q⟩ := q; exact q) fun _ _ x => x)
theorem and_nil {Q : Bool → Shared → Prop} (k : Q true s) : wpAny M A (allTrue .And [] env) Q E s := wpAny_allTrue_And_nil k
theorem e_bytes {x : List UInt8} {k : Nat} {pos : Pos} (q : Q (.bytes x.toArray t) ⟨h, g, d, t + 1, os⟩) : wpAny M A (eval (.Constant (.bytes x) k pos) env) Q E ⟨h, g, d, t, os⟩ := Constant_bytes (s := ⟨h, g, d, t, os⟩) q
theorem b_ne_same {b c : Array UInt8} {t1 t2 : Tok} (x : b = c) (q : Q (.bool false) s) : wpAny (model pg w) A (compareOp .NotEq (.bytes b t1) (.bytes c t2)) Q E s := ne_bytes (by subst x; simpa using q)
theorem s_ne_same {b c : List Nat} {t1 t2 : Tok} (x : b = c) (q : Q (.bool false) ⟨h, g, d, t, os⟩) : wpAny (model pg w) A (compareOp .NotEq (.str (strL b) t1) (.str (strL c) t2)) Q E ⟨h, g, d, t, os⟩ := s_ne (by subst x; simpa using q)
theorem i_ne_same {b c : Int} {t1 t2 : Tok} (x : b = c) (q : Q (.bool false) ⟨h, g, d, t, os⟩) : wpAny (model pg w) A (compareOp .NotEq (.int b t1) (.int c t2)) Q E ⟨h, g, d, t, os⟩ := i_ne (by subst x; simpa using q)
theorem eq_at_bytes {A : Around} {s : Shared} (b : Array UInt8) (t1 : Tok) (c : Array UInt8) (t2 : Tok) : SeqAt.EqAt A s (.bytes b t1) (.bytes c t2) (b.toList == c.toList) := fun prog w E Q q => by
  unfold eqBool
  refine wpAny_holding ?_
  refine wpAny_ite_split (fun hab => ?_) (fun _ => ?_)
  · have x : b = c := by have := eq_of_beq hab; injection this
    subst x
    exact wpAny_bind (wpAny_rule (wpAny_pure (by simpa using q)))
  · exact wpAny_bind (eq_bytes (wpAny_truthy_bool q))
theorem cline {n : Nat} (hA : AOk A n) : A.units < cLine := by
  have := hA.un
  have : (400 : Nat) < cLine := by decide
  omega
theorem t_ne_same {a b : Addr} {x x' y y' : Value} {n : Nat} (hA : AOk A n) (ha : h.get? a = some (tupObj x y)) (hb : h.get? b = some (tupObj x' y')) (hx : SeqAt.EqAt A.in1 ⟨h, g, d, t, os⟩ x x' true) (hy : SeqAt.EqAt A.in1 ⟨h, g, d, t, os⟩ y y' true) (q : Q (.bool false) ⟨h, g, d, t, os⟩) :
    wpAny (model pg w) A (compareOp .NotEq (.ref a) (.ref b)) Q E ⟨h, g, d, t, os⟩ := by
  refine SeqAt.RcNeAt.tuples (s := ⟨h, g, d, t, os⟩) (items := #[x, y]) (items2 := #[x', y']) (e := fun _ => true) ⟨_, ha, rfl, _, rfl⟩ ⟨_, hb, rfl, _, rfl⟩ (cline hA) (fun j h1 h2 => ?_) _ w E Q ?_
  · match j, h1 with
    | 0, _ => exact hx
    | 1, _ => exact hy
    | k + 2, h => exact absurd h (by simp)
  · rw [show (List.range (min (#[x, y] : Array Value).size (#[x', y'] : Array Value).size)).all (fun _ => true) = true from List.all_eq_true.mpr fun _ _ => rfl]
    exact q
/-- two lists of the same texts -/
def StrsAre (ys : Array Value) (ls : List (List Nat)) : Prop := ys.size = ls.length ∧ ∀ i < ls.length, ∃ u, ys.getD i .none = .str (strL (ls.getD i [])) u
theorem l_ne_same {a b : Addr} {ys zs : Array Value} {ls : List (List Nat)} {n : Nat} (hA : AOk A n) (ha : h.IsList a ys) (hb : h.IsList b zs) (sy : StrsAre ys ls) (sz : StrsAre zs ls) (q : Q (.bool false) ⟨h, g, d, t, os⟩) :
    wpAny (model pg w) A (compareOp .NotEq (.ref a) (.ref b)) Q E ⟨h, g, d, t, os⟩ := by
  refine SeqAt.RcNeAt.lists (s := ⟨h, g, d, t, os⟩) (items := ys) (items2 := zs) (e := fun _ => true) ha hb (sy.1.trans sz.1.symm) (cline hA) (fun j h1 h2 => ?_) _ w E Q ?_
  · obtain ⟨u, e1⟩ := sy.2 j (sy.1 ▸ h1)
    obtain ⟨v, e2⟩ := sz.2 j (sy.1 ▸ h1)
    rw [Array.getD_eq_getD_getElem?, Array.getElem?_eq_getElem h1, Option.getD_some] at e1
    rw [Array.getD_eq_getD_getElem?, Array.getElem?_eq_getElem h2, Option.getD_some] at e2
    rw [e1, e2]
    have := SeqAt.EqAt.str_str (A := A.in1) (s := ⟨h, g, d, t, os⟩) (strL (ls.getD j [])) u (strL (ls.getD j [])) v
    simpa using this
  · rw [show (List.range ys.size).all (fun _ => true) = true from List.all_eq_true.mpr fun _ _ => rfl]
    exact q
theorem WkT.ownL (F : WkT h₀ L cs hz h m cm news) : ∀ {fp : List Addr}, (∀ b ∈ fp, ∃ o, h.get? b = some o) → (∀ b ∈ fp, Own h₀ L cs b) → ∃ nf : List (Addr × Obj), nf.map (·.1) = fp ∧ WkT h₀ L cs hz h m cm (nf ++ news)
  | [], _, _ => ⟨[], rfl, F⟩
  | b :: r, hl, ho => by
    obtain ⟨nf, e, F'⟩ := WkT.ownL (fp := r) F (fun b q => hl b (List.mem_cons_of_mem _ q)) fun b q => ho b (List.mem_cons_of_mem _ q)
    obtain ⟨o, hb⟩ := hl b (List.mem_cons_self ..)
    exact ⟨(b, o) :: nf, by simp [e], F'.ownIn hb (ho b (List.mem_cons_self ..))⟩
theorem WkT.held {hz2 h2 : Heap} {m2 cm2 : Str → Option Value} {nf news news2 : List (Addr × Obj)} (F : WkT h₀ L cs hz h m cm (nf ++ news)) (F2 : WkT h₀ L cs hz2 h2 m2 cm2 news2) (sub : ∀ x ∈ nf, x ∈ news2) : ∀ b ∈ nf.map (·.1), ∀ o, h.get? b = some o → h2.get? b = some o := by
  intro b hb o e
  obtain ⟨⟨b', o'⟩, hm, rfl⟩ := List.mem_map.mp hb
  have h1 := F.get (List.mem_append_left _ hm)
  dsimp only at e h1
  rw [h1] at e; cases e
  exact F2.get (sub _ hm)
/-- an object that is a list of these -/
def IsL (o : Obj) (ys : Array Value) : Prop := o.cls = .type "list" ∧ ∃ n, o.data = .seq ys n
theorem IsL.at' {a : Addr} {o : Obj} {ys : Array Value} (x : IsL o ys) (e : h.get? a = some o) : h.IsList a ys := ⟨o, e, x.1, x.2⟩
theorem IsL.of {a : Addr} {ys : Array Value} (x : h.IsList a ys) : ∃ o, h.get? a = some o ∧ IsL o ys := x
theorem WkT.put {a : Addr} {o o2 : Obj} {rest : List (Addr × Obj)} (F : WkT h₀ L cs hz h m cm news) (ha : (a, o) ∈ news) (hs : Heap.SameBut a h h') (e : h'.get? a = some o2) (hr : ∀ x ∈ rest, x ∈ news ∧ x.1 ≠ a) : WkT h₀ L cs h' h' m cm ((a, o2) :: rest) :=
  ((F.fewer fun p q => (hr p q).1).ext (bad := [a]) (fun b o hb e => hs.extBut b o (by simpa using hb) e) (fun b hb => by rw [List.mem_singleton.mp hb]; exact F.own ha) (fun p q r => (hr p q).2 (List.mem_singleton.mp r))).ownIn e (F.own ha)
theorem r_joinI {sep : List Nat} {D : Addr} {ys : Array Value} {ls : List (List Nat)} {t1 : Tok} (hl : h.IsList D ys) (hy : StrsAre ys ls) (hz : sumL ls sep.length ≤ 1000000)
    (k : ∀ u t, Q (.str (strL (joinL sep ls)) u) ⟨h, g, d, t, os⟩) : wpAny (model pg w) A (call (.builtin "str.join") [.str (strL sep) t1, .ref D]) Q E ⟨h, g, d, t, os⟩ := by
  obtain ⟨us, hlen, hys⟩ := texts_of hy.1 hy.2
  refine SC.join (s := ⟨h, g, d, t, os⟩) (l := List.zipWith (fun l u => (strL l, u)) ls us) (texts := ls.map strL) ?_ ?_ ?_ ?_
  · rw [show strValues (List.zipWith (fun l u => (strL l, u)) ls us) = ys.toList by rw [hys, strValues, List.map_zipWith]]
    rw [Array.toArray_toList]
    exact hl
  · rw [List.map_zipWith]
    clear hys hz hl k hy
    induction ls generalizing us with
    | nil => cases us <;> rfl
    | cons x r ih => cases us with
      | nil => cases hlen
      | cons u us => simp only [List.zipWith_cons_cons, List.map_cons, List.cons.injEq]; exact ⟨trivial, ih us (by simpa using hlen)⟩
  · have e : ∀ (ls : List (List Nat)) (n : Nat), (ls.map strL).foldl (fun n l => n + l.length + (strL sep).length) n = ls.foldl (fun n l => n + l.length + sep.length) n := by
      intro ls
      induction ls with
      | nil => intro n; rfl
      | cons x r ih => intro n; rw [List.map_cons, List.foldl_cons, List.foldl_cons, ih, strL_len, strL_len]
    unfold JoinOk
    rw [List.foldl_toArray, e]
    unfold sumL at hz
    rw [Bool.not_eq_true']
    exact decide_eq_false (by rw [sizeLine_eq]; omega)
  · rw [join_L]; exact fun u t => k u t
end
end
section
section
variable {w : World} {A : Around} {E : Value → Shared → Prop} {Q : Flow → Shared → Prop} {hp h : Heap} {g : Array GenState} {d : Drawn} {t : Nat} {oD : Obj} {os : OsState} {sl Dp L : Addr} {vs : List Value} {script : List Int} {m cm : Str → Option Value} {ys : Array Value} {u : Tok} {f : Nat → Nat}
theorem pick_to {vs : Array Value} (k : Nat) : slicePick vs none (some (k : Int)) none = (vs.toList.take k).toArray := slicePick_upto' vs k
theorem placesAt {ys : Array Value} {f : Nat → Nat} (P : PlacesAre ys f) {i : Nat} (h : i < 64) : ∃ u, ys[i]? = some (.str (strL [f i]) u) := by
  obtain ⟨u, e⟩ := P.2 i h
  refine ⟨u, ?_⟩
  have hi : i < ys.size := by rw [P.1]; exact h
  rw [Array.getD_eq_getD_getElem?, Array.getElem?_eq_getElem hi, Option.getD_some] at e
  rw [Array.getElem?_eq_getElem hi, e]
theorem placesSwap {ys : Array Value} {f : Nat → Nat} (P : PlacesAre ys f) {a b : Nat} (ha : a < 64) (hb : b < 64) {u v : Tok} : PlacesAre ((ys.setIfInBounds a (.str (strL [f b]) u)).setIfInBounds b (.str (strL [f a]) v)) (swapF f a b) := by
  refine ⟨by simp [P.1], fun i hi => ?_⟩
  have hs : i < ys.size := by rw [P.1]; exact hi
  unfold swapF
  rw [Array.getD_eq_getD_getElem?, Array.getElem?_setIfInBounds, Array.getElem?_setIfInBounds]
  by_cases h1 : i = b
  · subst h1
    rw [if_pos rfl, if_pos (by simpa using hs), if_pos rfl]
    exact ⟨v, rfl⟩
  · rw [if_neg (Ne.symm h1), if_neg h1]
    by_cases h2 : i = a
    · subst h2
      rw [if_pos rfl, if_pos hs, if_pos rfl]
      exact ⟨u, rfl⟩
    · rw [if_neg (Ne.symm h2), if_neg h2]
      obtain ⟨z, e⟩ := placesAt P hi
      exact ⟨z, by rw [e]; rfl⟩
def charsOf (f : Nat → Nat) : Array UInt8 := ((List.range 64).map fun i => (f i).toUInt8).toArray
theorem charsOf_at (f : Nat → Nat) {i : Nat} (h : i < 64) : (charsOf f).getD i 0 = (f i).toUInt8 := by
  unfold charsOf; simp [Array.getD, h]
theorem charsOf_nat {f : Nat → Nat} (G : Good f) {i : Nat} (h : i < 64) : ((charsOf f).getD i 0).toNat = f i := by
  rw [charsOf_at f h]
  have := G.rng i h
  show (UInt8.ofNat (f i)).toNat = f i
  rw [UInt8.toNat_ofNat']; omega
theorem chars_rng {f : Nat → Nat} (G : Good f) : ∀ i < 64, 45 < ((charsOf f).getD i 0).toNat ∧ ((charsOf f).getD i 0).toNat < 123 := fun i h => by rw [charsOf_nat G h]; exact G.rng i h
theorem chars_ok {f : Nat → Nat} (G : Good f) : Chs (charsOf f) := ⟨by simp [charsOf], fun i h => by have := chars_rng G i h; omega, fun i j hi hj e => by rw [charsOf_nat G hi, charsOf_nat G hj] at e; exact G.inj i j hi hj e⟩
theorem chars_nats {f : Nat → Nat} (G : Good f) : natsOf (charsOf f) = (List.range 64).map f := by
  unfold natsOf charsOf
  rw [List.map_map]
  refine List.map_congr_left fun i hi => ?_
  have := G.rng i (List.mem_range.mp hi)
  show (UInt8.ofNat (f i)).toNat = f i
  rw [UInt8.toNat_ofNat']; omega
theorem seg_a {g : BG} (hA : AOk A 47) (hn : script.length ≤ 63) (hi : IntsAre vs script) (X : Top w (strike hp)) (hL0 : (strike hp).IsList sl vs.toArray)
    (F : WkT (strike hp) L (LCs L) h h m cm [(Dp, oD)]) (m1 : m "first" = some (.int (script.headD 0) u)) (m2 : m "places" = some (.ref Dp)) (c1 : cm "script" = some (.ref sl)) (HL : IsL oD ys) (P : PlacesAre ys f) (G : Good f)
    (next : ∀ h' (g' : BG) t' m' cm' chars u u', WkT (strike hp) L (LCs L) h' h' m' cm' [] → Chs chars → (∀ i < 64, 45 < (chars.getD i 0).toNat ∧ (chars.getD i 0).toNat < 123) → m' "first" = some (.int (script.headD 0) u) → cm' "script" = some (.ref sl) → cm' "signs" = some (.str (strL (natsOf chars)) u') →
      wpAny (model pg w) A (execs (B322 4) (LEnv L)) Q (fun _ _ => False) ⟨h', g', d, t', os⟩) :
    wpAny (model pg w) A (execs (B322 2) (LEnv L)) Q (fun _ _ => False) ⟨h, g, d, t, os⟩ := by
  have hvl := hi.length
  refine s_join (fun s' => ∃ h', ∃ g' : BG, ∃ t' m' cm' ys' oD' f', s' = ⟨h', g', d, t', os⟩ ∧ WkT (strike hp) L (LCs L) h' h' m' cm' [(Dp, oD')] ∧ IsL oD' ys' ∧ PlacesAre ys' f' ∧ Good f' ∧ m' "first" = some (.int (script.headD 0) u) ∧ m' "places" = some (.ref Dp) ∧ cm' "script" = some (.ref sl)) ?_ ?_
  · repeat tb_rel
    obtain ⟨oS, hoS, rS⟩ := id hL0
    refine tl_lsl (b := some ((8 : Nat) : Int)) ⟨oS, F.old _ _ hoS, rS⟩ .none (.int _ _) (by rw [List.size_toArray, hi.length]; omega) ?_ (by intro _; with_unfolding_all rfl) (by intro _; with_unfolding_all rfl)
    intro h2 l k2 nl hl
    rw [pick_to, List.toList_toArray] at hl
    obtain ⟨nl', hl⟩ := hl
    have dl : Dp ≠ l := fun x => by have := F.get (List.mem_cons_self ..); rw [x, nl] at this; cases this
    replace F := F.add k2 hl nl
    clear k2 nl
    repeat tb_rel
    refine up hA (x_enumL (F.top X) (F.get (List.mem_cons_self ..)) ?_)
    intro h3 t3 en I Dm
    have ne := Dm.nw _ (List.mem_cons_self ..)
    have nI := Dm.nw _ (List.mem_cons_of_mem _ (List.mem_cons_self ..))
    dsimp only at ne nI
    have ord := Dm.ord
    simp only [List.map_cons, List.map_nil, List.pairwise_cons, List.mem_cons, List.not_mem_nil, or_false, forall_eq_or_imp, forall_eq, gt_iff_lt] at ord
    have heI : en ≠ I := Nat.ne_of_gt ord.1
    clear ord
    have oE := F.ownNew ne.2
    have oI := F.ownNew nI.2
    have ol := F.own (List.mem_cons_self ..)
    have hl2 := F.get (List.mem_cons_self ..)
    have lI : l ≠ I := fun x => by rw [x, nI.2] at hl2; cases hl2
    have lE : l ≠ en := fun x => by rw [x, ne.2] at hl2; cases hl2
    have hD2 := F.get (List.mem_cons_of_mem _ (List.mem_cons_self ..))
    have dI : Dp ≠ I := fun x => by rw [x, nI.2] at hD2; cases hD2
    have dE : Dp ≠ en := fun x => by rw [x, ne.2] at hD2; cases hD2
    have W := It.enum (w := w) (It.list I l lI (vs.take 8).toArray (min 8 vs.length) (by simp)) (e := en) (by simp [heI, Ne.symm lE])
    replace F := F.kept (keeps_of_mem Dm)
    have oW : ∀ a ∈ [en] ++ [I], Own (strike hp) L (LCs L) a := by
      intro a ha
      simp only [List.cons_append, List.nil_append, List.mem_cons, List.not_mem_nil, or_false] at ha
      rcases ha with rfl | rfl
      · exact oE
      · exact oI
    have oF : ∀ a ∈ [en, I, l], Own (strike hp) L (LCs L) a := by
      intro a ha
      simp only [List.mem_cons, List.not_mem_nil, or_false] at ha
      rcases ha with rfl | rfl | rfl
      · exact oE
      · exact oI
      · exact ol
    clear Dm hl2 hD2
    refine wpAny_pyIter_enum ne.1 ?_
    refine for_T W (hA.less (by omega)) (fun i s => ∃ h, ∃ g' : BG, ∃ t m cm ys oD f, s = ⟨h, g', d, t, os⟩ ∧ WkT (strike hp) L (LCs L) h h m cm [(Dp, oD)] ∧ ((∃ old, IsEnum h en I (i : Int) old) ∧ h.IsListIter I l i ∧ h.IsList l (vs.take 8).toArray) ∧ IsL oD ys ∧ PlacesAre ys f ∧ Good f ∧ m "first" = some (.int (script.headD 0) u) ∧ m "places" = some (.ref Dp) ∧ cm "script" = some (.ref sl)) ?_ ?_ ?_ ?_
    · rintro i s ⟨h, g', t, m, cm, ys, oD, f, rfl, F, st, _⟩
      exact st
    · rintro i s s₁ T x y hi8 ⟨h, g', t, m, cm, ys, oD, f, rfl, F, st, HL, P, G, m1, m2, c1⟩ ⟨⟨ux, rfl⟩, hy⟩ hT hf st₁ mv
      obtain ⟨h4, t4, rfl⟩ := mv.shaped
      have hi8' : i < 8 := by omega
      have hil : i < script.length := by omega
      obtain ⟨uy, hyv⟩ := ints_at hi i hil
      have hy2 : y = .int (script.getD i 0) uy := by
        rw [List.getElem?_toArray, List.getElem?_take, if_pos hi8', hyv] at hy
        exact (Option.some.inj hy).symm
      subst hy2
      generalize script.getD i 0 = xv at hyv hy
      clear hyv hy
      replace F : WkT (strike hp) L (LCs L) h4 h4 m cm [(Dp, oD)] := F.mv mv oW (by simp [dI, dE])
      obtain ⟨nf, enf, FN⟩ := F.ownL (fp := [en, I, l]) (fun b hb => by
        simp only [List.mem_cons, List.not_mem_nil, or_false] at hb
        obtain ⟨⟨old, a1⟩, ⟨o2, a2, _⟩, ⟨o3, a3, _⟩⟩ := st₁
        rcases hb with rfl | rfl | rfl
        · exact ⟨_, a1⟩
        · exact ⟨_, a2⟩
        · exact ⟨_, a3⟩) oF
      have hDn : Dp ∉ nf.map (·.1) := by rw [enf]; intro q; simp only [List.mem_cons, List.not_mem_nil, or_false] at q; rcases q with q | q | q
                                         · exact dE q
                                         · exact dI q
                                         · exact dl q
      replace F := FN
      refine tasgC hA.hd F hT (fun h5 t5 F5 => ?_) rfl rfl rfl rfl rfl rfl
      clear F; rename _ => F
      repeat tb_rel
      refine Assign_Tuple ?_ (by rfl) (by rfl)
      refine e_tup ?_
      repeat tb_rel
      refine i_mod (by decide) ?_
      intro _ _
      obtain ⟨xm, hxm, hxl⟩ : ∃ xm : Nat, (script.getD i 0).fmod 64 = (xm : Int) ∧ xm < 64 := ⟨((script.getD i 0).fmod 64).toNat, by rw [Int.fmod_eq_emod_of_nonneg _ (by decide)]; omega, by rw [Int.fmod_eq_emod_of_nonneg _ (by decide)]; omega⟩
      rw [hxm]
      have hDm : (Dp, oD) ∈ nf ++ [(Dp, oD)] := List.mem_append_right _ (List.mem_cons_self ..)
      obtain ⟨ua, ha⟩ := placesAt P hxl
      have hb64 : 8 * i + 1 < 64 := by omega
      obtain ⟨ub, hb⟩ := placesAt P hb64
      repeat tb_rel
      refine tl_li (x := .str (strL [f xm]) ua) (HL.at' (F.get hDm)) (by omega) (by omega) (by simpa using ha) ?_ (by with_unfolding_all rfl) (by intro _; with_unfolding_all rfl)
      repeat tb_rel
      refine i_mul (by decide) (by omega) ?_
      intro _ _
      repeat tb_rel
      refine tl_li (x := .str (strL [f (8 * i + 1)]) ub) (HL.at' (F.get hDm)) (by omega) (by omega) (by rw [show (8 * (i : Int) + 1).toNat = 8 * i + 1 by omega]; exact hb) ?_ (by with_unfolding_all rfl) (by intro _; with_unfolding_all rfl)
      repeat tb_rel
      refine tup_q (by simp) ?_
      intro h6 Tp k6 hTp nTp
      replace F := F.kept k6
      clear k6
      refine wpAny_assign_Tuple (items := #[.str (strL [f xm]) ua, .str (strL [f (8 * i + 1)]) ub]) hA.hd ⟨_, hTp, rfl, _, rfl⟩ rfl rfl fun h7 e7 => ?_
      replace F := F.kept fun c o e => e7 c o (Nat.ne_of_lt (Heap.lt_size e)) e
      refine assignInOrder_cons ?_
      refine asg_sub ?_
      repeat tb_rel
      refine i_mul (by decide) (by omega) ?_
      intro _ _
      repeat tb_rel
      refine set_li (HL.at' (F.get hDm)) (by omega) (by rw [P.1]; omega) (by rw [P.1]; decide) ?_
      intro h8 hl8 hs8
      rw [show (8 * (i : Int) + 1).toNat = 8 * i + 1 by omega] at hl8
      obtain ⟨o8, ho8, HL8⟩ := hl8
      have HL8 : IsL o8 _ := HL8
      have hnf : ∀ x ∈ nf, x ∈ nf ++ [(Dp, oD)] ∧ x.1 ≠ Dp := fun x q => ⟨List.mem_append_left _ q, fun r => hDn (r ▸ List.mem_map.mpr ⟨x, q, rfl⟩)⟩
      replace F := F.put hDm hs8 ho8 hnf
      refine assignInOrder_cons ?_
      refine asg_sub ?_
      repeat tb_rel
      refine i_mod (by decide) ?_
      intro _ _
      rw [hxm]
      refine set_li (HL8.at' (F.get (List.mem_cons_self ..))) (by omega) (by rw [Array.size_setIfInBounds, P.1]; omega) (by rw [Array.size_setIfInBounds, P.1]; decide) ?_
      intro h9 hl9 hs9
      rw [Int.toNat_natCast] at hl9
      obtain ⟨o9, ho9, HL9⟩ := hl9
      have HL9 : IsL o9 _ := HL9
      replace F := F.put (List.mem_cons_self ..) hs9 ho9 (fun x q => ⟨List.mem_cons_of_mem _ q, (hnf x q).2⟩)
      refine assignInOrder_nil ?_
      repeat tb_rel
      refine tq_next ⟨_, _, _, _, _, _, _, _, rfl, F.fewer (fun p q => by rw [List.mem_singleton.mp q]; exact List.mem_cons_self ..), W.frame _ ⟨h4, g', d, t4, os⟩ ⟨h9, g', d, t4, os⟩ st₁ (fun b hb => FN.held (nf := nf) F (fun x q => List.mem_cons_of_mem _ q) b (by rw [enf]; simpa using hb)) (fun _ _ => rfl), HL9, placesSwap P hb64 hxl, G.swap hb64 hxl, by with_unfolding_all assumption, by with_unfolding_all assumption, by with_unfolding_all assumption⟩
    · rintro s s₁ ⟨h, g', t, m, cm, ys, oD, f, rfl, F, st, HL, P, G, m1, m2, c1⟩ mv
      obtain ⟨h4, t4, rfl⟩ := mv.shaped
      exact ⟨rfl, _, _, _, _, _, _, _, _, rfl, F.mv mv oW (by simp [dI, dE]), HL, P, G, m1, m2, c1⟩
    · exact ⟨_, _, _, _, _, _, _, _, rfl, (F.fewer fun p q => List.mem_cons_of_mem _ q).mark, ⟨⟨_, ne.1⟩, ⟨_, nI.1, rfl, rfl⟩, ⟨_, F.get (List.mem_cons_self ..), rfl, _, rfl⟩⟩, HL, P, G, m1, m2, c1⟩
  · rintro s' ⟨h, g, t, m, cm, ys, oD, f, rfl, F, HL, P, G, m1, m2, c1⟩
    repeat tb_rel
    refine MethodCall_ ?_ (by rfl)
    repeat tb_rel
    refine GM.join ?_
    repeat tb_rel
    refine r_joinI (sep := []) (ls := (List.range 64).map fun i => [f i]) (HL.at' (F.get (List.mem_cons_self ..))) ⟨by rw [P.1]; simp, fun i hi => ?_⟩ (Nat.le_trans (sumL_le (B := 1) (by simp)) (by simp)) ?_
    · have hi : i < 64 := by simpa using hi
      obtain ⟨z, e⟩ := P.2 i hi
      refine ⟨z, e.trans ?_⟩
      congr 2
      simp [hi]
    intro uj _
    rw [join_single, ← chars_nats G]
    repeat ((fail_if_success (with_reducible refine at_cons ?_)); tb_rel)
    exact next _ _ _ _ _ _ _ _ F.drop.mark (chars_ok G) (chars_rng G) (by with_unfolding_all assumption) (by with_unfolding_all assumption) (by with_unfolding_all rfl)
end
end
section
section
variable {w : World} {A : Around} {E : Value → Shared → Prop} {Q : Flow → Shared → Prop} {hp h : Heap} {g : Array GenState} {d : Drawn} {t : Nat} {os : OsState} {sl L : Addr} {first : Int} {m cm : Str → Option Value} {u u' : Tok} {chars : Array UInt8} {t1 : Tok}
def bigOf (first : Int) : Bool := first.fmod 2 == 1
def kOf (first : Int) : Nat := (1 + (first.fdiv 4).fmod 6).toNat
theorem kOf_is (first : Int) : (1 : Int) + (first.fdiv 4).fmod 6 = ((kOf first : Nat) : Int) ∧ 1 ≤ kOf first ∧ kOf first ≤ 6 := by
  unfold kOf
  rw [Int.fmod_eq_emod_of_nonneg _ (by decide)]
  omega
theorem asc_chars (C : Chs chars) : Asc (strL (natsOf chars)) := by
  intro c hc
  have hc : c ∈ natsOf chars := by simpa [strL] using hc
  unfold natsOf at hc
  obtain ⟨x, hx, rfl⟩ := List.mem_map.mp hc
  obtain ⟨i, hi, rfl⟩ := List.mem_iff_getElem.mp hx
  have := C.asc i (by rw [← C.size]; simpa using hi)
  simpa [Array.getD, show i < chars.size by simpa using hi] using this
theorem wd_at {vs : List Nat} (C : Chs chars) (hvs : ∀ v ∈ vs, v < 64) : ∀ c ∈ wordL chars vs, c < 128 := by
  intro c hc
  obtain ⟨v, hv, rfl⟩ := List.mem_map.mp hc
  exact C.asc v (hvs v hv)
theorem bytes_word (vs : List Nat) : bytesOf (strL (wordL chars vs)) = wordB chars vs := by
  unfold bytesOf strL wordL wordB
  simp [List.map_map, cl, Function.comp_def]
theorem word_str (vs : List Nat) : strOf (wordB chars vs) = strL (wordL chars vs) := by
  unfold strOf strL wordL wordB
  simp [List.map_map, cl, Function.comp_def]
theorem enc_signs {Q : Value → Shared → Prop} {t2 : Tok} (C : Chs chars) (k : ∀ u t, Q (.bytes chars u) ⟨h, g, d, t, os⟩) : wpAny (model pg w) A (call (.builtin "str.encode") [.str (strL (natsOf chars)) t1, .str "ascii" t2]) Q E ⟨h, g, d, t, os⟩ := by
  refine enc_ascii (asc_chars C) (by rw [show (strL (natsOf chars)).cps.size = 64 by simp [strL, natsOf, C.size]]; decide) ?_
  intro u t
  rw [← strOf_L, bytes_str]
  exact k u t
theorem enc_w {Q : Value → Shared → Prop} {t2 : Tok} {vs : List Nat} (C : Chs chars) (hvs : ∀ v ∈ vs, v < 64) (hl : vs.length ≤ 100) (k : ∀ u t, Q (.bytes (wordB chars vs) u) ⟨h, g, d, t, os⟩) : wpAny (model pg w) A (call (.builtin "str.encode") [.str (strL (wordL chars vs)) t1, .str "ascii" t2]) Q E ⟨h, g, d, t, os⟩ := by
  refine enc_ascii (fun c hc => wd_at C hvs c (by simpa [strL] using hc)) (by rw [show (strL (wordL chars vs)).cps.size = vs.length by simp [strL, wordL]]; omega) ?_
  intro u t
  rw [bytes_word]
  exact k u t
theorem dec_w {Q : Value → Shared → Prop} {t2 : Tok} {vs : List Nat} (C : Chs chars) (hvs : ∀ v ∈ vs, v < 64) (h0 : vs ≠ []) (hl : vs.length ≤ 100) (k : ∀ u t, Q (.str (strL (wordL chars vs)) u) ⟨h, g, d, t, os⟩) : wpAny (model pg w) A (call (.builtin "bytes.decode") [.bytes (wordB chars vs) t1, .str "ascii" t2]) Q E ⟨h, g, d, t, os⟩ := by
  have hp := List.length_pos_iff.mpr h0
  refine dec_ascii (by rw [wordB_size]; exact hp) (by rw [wordB_size]; omega) (fun p hp => ?_) ?_
  · rw [wordB_size] at hp
    rw [wordB_at chars vs hp]
    exact C.asc _ (hvs _ (by rw [List.getD_eq_getElem?_getD, List.getElem?_eq_getElem hp]; exact List.getElem_mem hp))
  · intro u t
    rw [word_str]
    exact k u t
theorem seg_b {g : BG} (hA : AOk A 47) (X : Top w (strike hp)) (C : Chs chars)
    (F : WkT (strike hp) L (LCs L) h h m cm []) (m1 : m "first" = some (.int first u)) (c1 : cm "script" = some (.ref sl)) (c2 : cm "signs" = some (.str (strL (natsOf chars)) u'))
    (next : ∀ h' (g' : BG) t' m' cm' p e od u u' u2, WkT (strike hp) L (LCs L) h' h' m' cm' (engNews p e chars (bigOf first) od) → EngTab chars od → m' "first" = some (.int first u) → m' "engine" = some (.ref e) → m' "k" = some (.int (kOf first : Nat) u2) → cm' "script" = some (.ref sl) → cm' "signs" = some (.str (strL (natsOf chars)) u') → cm' "big" = some (.bool (bigOf first)) →
      wpAny (model pg w) A (execs (B322 7) (LEnv L)) Q (fun _ _ => False) ⟨h', g', d, t', os⟩) :
    wpAny (model pg w) A (execs (B322 4) (LEnv L)) Q (fun _ _ => False) ⟨h, g, d, t, os⟩ := by
  refine s_cons ?_
  repeat ((fail_if_success (with_reducible refine at_cons ?_)); tb_rel)
  refine i_mod (by decide) ?_
  intro _ _
  repeat ((fail_if_success (with_reducible refine at_cons ?_)); tb_rel)
  rw [show (first.fmod 2 == 1) = bigOf first from rfl] at F
  generalize bigOf first = big at *
  refine s_join (fun s' => ∃ h', ∃ g' : BG, ∃ t' m' cm' p e od, s' = ⟨h', g', d, t', os⟩ ∧ WkT (strike hp) L (LCs L) h' h' m' cm' (engNews p e chars big od) ∧ EngTab chars od ∧ m' "first" = some (.int first u) ∧ m' "engine" = some (.ref e) ∧ cm' "script" = some (.ref sl) ∧ cm' "signs" = some (.str (strL (natsOf chars)) u') ∧ cm' "big" = some (.bool big)) ?_ ?_
  · repeat tb_rel
    refine i_div (by decide) (by decide) ?_
    intro _ _
    repeat tb_rel
    refine i_mod (by decide) ?_
    intro _ _
    repeat tb_rel
    cases hq : ((first.fdiv 2).fmod 2 == 0)
    · repeat tb_rel
      refine MethodCall_ ?_ (by rfl)
      repeat tb_rel
      refine gm_encode ?_
      repeat tb_rel
      refine enc_signs C ?_
      intro _ _
      repeat tb_rel
      refine mk_engN (hA.less (by omega)) (F.top X) F.T C (.inr rfl) ?_
      intro h2 g2 t2 p e k2 T2 H2 N2
      have F2 := F
      replace F := F.keptG k2 T2
      obtain ⟨od, tab, F⟩ := eng_news F2 F H2 N2
      repeat tb_rel
      exact ⟨rfl, _, _, _, _, _, _, _, _, rfl, F.mark, tab, by with_unfolding_all assumption, by with_unfolding_all rfl, by with_unfolding_all assumption, by with_unfolding_all assumption, by with_unfolding_all rfl⟩
    · repeat tb_rel
      refine mk_engN (hA.less (by omega)) (F.top X) F.T C (.inl (by rw [strOf_L])) ?_
      intro h2 g2 t2 p e k2 T2 H2 N2
      have F2 := F
      replace F := F.keptG k2 T2
      obtain ⟨od, tab, F⟩ := eng_news F2 F H2 N2
      repeat tb_rel
      exact ⟨rfl, _, _, _, _, _, _, _, _, rfl, F.mark, tab, by with_unfolding_all assumption, by with_unfolding_all rfl, by with_unfolding_all assumption, by with_unfolding_all assumption, by with_unfolding_all rfl⟩
  · rintro s' ⟨h, g, t, m, cm, p, e, od, rfl, F, tab, m1, m2, c1, c2, c3⟩
    repeat tb_rel
    refine i_div (by decide) (by decide) ?_
    intro _ _
    repeat tb_rel
    refine i_mod (by decide) ?_
    intro _ _
    repeat ((fail_if_success (with_reducible refine at_cons ?_)); tb_rel)
    rw [(kOf_is first).1] at F
    exact next _ _ _ _ _ _ _ _ _ _ _ F.mark tab (by with_unfolding_all assumption) (by with_unfolding_all assumption) (by with_unfolding_all rfl) (by with_unfolding_all assumption) (by with_unfolding_all assumption) (by with_unfolding_all assumption)
end
end
section
section
variable {w : World} {A : Around} {E : Value → Shared → Prop} {Q : Flow → Shared → Prop} {hp h : Heap} {g : Array GenState} {d : Drawn} {t : Nat} {os : OsState} {sl L : Addr} {vs : List Value} {script : List Int} {first : Int} {m cm : Str → Option Value} {u u' u2 : Tok} {chars : Array UInt8} {t1 : Tok} {p : EngP} {e : Addr} {big : Bool} {od : Obj} {k : Nat}
theorem WkT.notIn {h₀ hz h : Heap} {L I : Addr} {cs : List (Str × Addr)} {m cm : Str → Option Value} {news : List (Addr × Obj)} (F : WkT h₀ L cs hz h m cm news) (nI : h.get? I = none) : ∀ p ∈ news, p.1 ∉ [I] := fun p q r => by
  have := F.get (a := p.1) (o := p.2) q
  rw [List.mem_singleton.mp r, nI] at this; cases this
theorem intsAre_of : ∀ {l : List Value} {ns : List Int}, l.length = ns.length → (∀ i < ns.length, ∃ u, l.getD i .none = .int (ns.getD i 0) u) → IntsAre l ns
  | [], [], _, _ => .nil
  | [], _ :: _, h, _ => by simp at h
  | _ :: _, [], h, _ => by simp at h
  | a :: l, n :: ns, h, q => by
    obtain ⟨u, e⟩ := q 0 (by simp)
    have e : a = .int n u := by simpa using e
    subst e
    refine .cons n u (intsAre_of (by simpa using h) fun i hi => ?_)
    obtain ⟨v, e2⟩ := q (i + 1) (by simp; omega)
    exact ⟨v, by simpa using e2⟩
theorem ints_arr {ys : Array Value} {ns : List Int} (hs : ys.size = ns.length) (h : ∀ i < ns.length, ∃ u, ys.getD i .none = .int (ns.getD i 0) u) : IntsAre ys.toList ns :=
  intsAre_of (by simpa using hs) fun i hi => by
    obtain ⟨u, e⟩ := h i hi
    refine ⟨u, ?_⟩
    rw [← e]
    simp [Array.getD_eq_getD_getElem?]
def lettI (script : List Int) : List Int := (script.take 12).map fun x => x.fmod 256
def keyI (script : List Int) : List Int := (script.take 3).map fun x => (x.fdiv 64).fmod 256
def letA (script : List Int) : Array UInt8 := byteArr (lettI script)
def keyL (script : List Int) : List UInt8 := if script = [] then [90] else (keyI script).map fun n => n.toNat.toUInt8
theorem letA_size (script : List Int) : (letA script).size = min 12 script.length := by simp [letA, lettI, byteArr_size]
theorem keyL_ne (script : List Int) : keyL script ≠ [] := by
  unfold keyL keyI
  split
  · simp
  · cases script with
    | nil => contradiction
    | cons x r => simp
theorem keyL_len (script : List Int) : (keyL script).length ≤ 3 := by
  unfold keyL keyI
  split
  · simp
  · simp; omega
theorem fm_rng (x : Int) : 0 ≤ x.fmod 256 ∧ x.fmod 256 < 256 := by rw [Int.fmod_eq_emod_of_nonneg _ (by decide)]; omega
theorem seg_c {g : BG} (hA : AOk A 47) (hn : script.length ≤ 63) (hi : IntsAre vs script) (X : Top w (strike hp)) (hL0 : (strike hp).IsList sl vs.toArray) (k1 : 1 ≤ k) (k6 : k ≤ 6)
    (F : WkT (strike hp) L (LCs L) h h m cm (engNews p e chars big od)) (m1 : m "first" = some (.int first u)) (m2 : m "engine" = some (.ref e)) (m3 : m "k" = some (.int (k : Nat) u2)) (c1 : cm "script" = some (.ref sl)) (c2 : cm "signs" = some (.str (strL (natsOf chars)) u')) (c3 : cm "big" = some (.bool big))
    (next : ∀ h' (g' : BG) t' m' cm' u u' u2 u3 u4 u5, WkT (strike hp) L (LCs L) h' h' m' cm' (engNews p e chars big od) → m' "first" = some (.int first u) → m' "engine" = some (.ref e) → m' "k" = some (.int (k : Nat) u2) → cm' "script" = some (.ref sl) → cm' "signs" = some (.str (strL (natsOf chars)) u') → cm' "big" = some (.bool big) →
      m' "letter" = some (.bytes (letA script) u3) → cm' "key" = some (.bytes (keyL script).toArray u4) → m' "mask" = some (.bytes (cycle (keyL script) k).toArray u5) →
      wpAny (model pg w) A (execs (B322 10) (LEnv L)) Q (fun _ _ => False) ⟨h', g', d, t', os⟩) :
    wpAny (model pg w) A (execs (B322 7) (LEnv L)) Q (fun _ _ => False) ⟨h, g, d, t, os⟩ := by
  have hvl := hi.length
  obtain ⟨oS, hoS, rS⟩ := id hL0
  refine s_join (fun s' => ∃ h', ∃ g' : BG, ∃ t' m' cm' u3, s' = ⟨h', g', d, t', os⟩ ∧ WkT (strike hp) L (LCs L) h' h' m' cm' (engNews p e chars big od) ∧ m' "first" = some (.int first u) ∧ m' "engine" = some (.ref e) ∧ m' "k" = some (.int (k : Nat) u2) ∧ cm' "script" = some (.ref sl) ∧ cm' "signs" = some (.str (strL (natsOf chars)) u') ∧ cm' "big" = some (.bool big) ∧ m' "letter" = some (.bytes (letA script) u3)) ?_ ?_
  · repeat tb_rel
    refine lc_eval (cl := []) (by rfl) rfl (by decide) ?_ (by intro _; rfl)
    repeat tb_rel
    refine tl_lsl (b := some ((12 : Nat) : Int)) ⟨oS, F.old _ _ hoS, rS⟩ .none (.int _ _) (by rw [List.size_toArray, hi.length]; omega) ?_ (by intro _; with_unfolding_all rfl) (by intro _; with_unfolding_all rfl)
    intro h2 l k2 nl hl
    rw [pick_to, List.toList_toArray] at hl
    replace F := F.kept k2
    clear k2 nl
    refine pyIter_L hl.isList ?_
    intro h4 I k4 hI nI
    have oI := F.ownNew nI
    have hl4 : h4.IsList l (vs.take 12).toArray := by obtain ⟨o, e, r⟩ := hl.isList; exact ⟨o, k4 _ _ e, r⟩
    have hne : l ≠ I := fun x => by obtain ⟨o, e, r⟩ := hl.isList; rw [x, nI] at e; cases e
    have hnn := F.notIn nI
    replace F := (F.kept k4).mark
    refine lc_val (El := fun i y o => o = none ∧ ∃ u, y = .int ((script.getD i 0).fmod 256) u) (nw := []) (lc_src1 _ (It.list I l hne (vs.take 12).toArray (min 12 vs.length) (by simp)) (hA.less (by omega)) (fun A E Q s st hq => wpAny_pyIter_listiter st.1 hq) (by intro _; rfl) (by simp) ?_ ?_) (by omega) (by decide) rfl F ?_ ?_ ?_ hnn (by simp) ?_
    · intro a ha
      rw [List.mem_singleton.mp ha]; exact oI.1
    · intro C2 i v h5 t5 m5 hC2 hi2 hv F
      obtain ⟨uy, hyv⟩ := ints_at hi i (by omega)
      rw [List.getElem?_toArray, List.getElem?_take, if_pos (by omega), hyv] at hv
      obtain rfl := Option.some.inj hv
      refine wpAny_assign_Name ?_
      repeat tb_rel
      refine i_mod (by decide) ?_
      intro _ _
      exact ⟨_, _, _, rfl, F, none, ⟨rfl, _, rfl⟩, fun ob z => by cases z⟩
    · intro a ha
      simp only [List.mem_cons, List.not_mem_nil, or_false] at ha
      rcases ha with rfl | rfl
      · exact ⟨_, hI⟩
      · obtain ⟨o, e, r⟩ := hl4; exact ⟨o, e⟩
    · exact ⟨⟨_, hI, rfl, rfl⟩, hl4⟩
    · intro a ha
      rw [List.mem_singleton.mp ha]; exact oI
    · intro D h6 t6 ys nD hD F oD hsz hel
      repeat tb_rel
      refine bintsN (vs := ys.toList) (ns := lettI script) (by simpa using hD.isList) (ints_arr (by rw [hsz]; simp [lettI, hvl]) fun i hi3 => ?_) (fun n hn2 => ?_) (by simp [hsz]; omega) hA.hd ?_
      · have hi3 : i < min 12 script.length := by simpa [lettI] using hi3
        obtain ⟨o, ⟨_, u, e⟩, _⟩ := hel i (by omega)
        refine ⟨u, e.trans ?_⟩
        congr 1
        simp [lettI, List.getD_eq_getElem?_getD, List.getElem?_take, show i < 12 by omega, show i < script.length by omega]
      · obtain ⟨x, _, rfl⟩ := List.mem_map.mp hn2
        exact fm_rng x
      · intro h7 u7 t7 k7
        replace F := F.kept k7
        repeat tb_rel
        exact ⟨rfl, _, _, _, _, _, _, rfl, F.mark, by with_unfolding_all assumption, by with_unfolding_all assumption, by with_unfolding_all assumption, by with_unfolding_all assumption, by with_unfolding_all assumption, by with_unfolding_all assumption, by with_unfolding_all rfl⟩
  · rintro s' ⟨h, g, t, m, cm, u3, rfl, F, m1, m2, m3, c1, c2, c3, m4⟩
    refine s_join (fun s' => ∃ h', ∃ g' : BG, ∃ t' m' cm' u4, s' = ⟨h', g', d, t', os⟩ ∧ WkT (strike hp) L (LCs L) h' h' m' cm' (engNews p e chars big od) ∧ m' "first" = some (.int first u) ∧ m' "engine" = some (.ref e) ∧ m' "k" = some (.int (k : Nat) u2) ∧ cm' "script" = some (.ref sl) ∧ cm' "signs" = some (.str (strL (natsOf chars)) u') ∧ cm' "big" = some (.bool big) ∧ m' "letter" = some (.bytes (letA script) u3) ∧ cm' "key" = some (.bytes (keyL script).toArray u4)) ?_ ?_
    · repeat tb_rel
      refine BoolOp_or ?_
      repeat tb_rel
      refine lc_eval (cl := []) (by rfl) rfl (by decide) ?_ (by intro _; rfl)
      repeat tb_rel
      refine tl_lsl (b := some ((3 : Nat) : Int)) ⟨oS, F.old _ _ hoS, rS⟩ .none (.int _ _) (by rw [List.size_toArray, hi.length]; omega) ?_ (by intro _; with_unfolding_all rfl) (by intro _; with_unfolding_all rfl)
      intro h2 l k2 nl hl
      rw [pick_to, List.toList_toArray] at hl
      replace F := F.kept k2
      clear k2 nl
      refine pyIter_L hl.isList ?_
      intro h4 I k4 hI nI
      have oI := F.ownNew nI
      have hl4 : h4.IsList l (vs.take 3).toArray := by obtain ⟨o, e, r⟩ := hl.isList; exact ⟨o, k4 _ _ e, r⟩
      have hne : l ≠ I := fun x => by obtain ⟨o, e, r⟩ := hl.isList; rw [x, nI] at e; cases e
      have hnn := F.notIn nI
      replace F := (F.kept k4).mark
      refine lc_val (El := fun i y o => o = none ∧ ∃ u, y = .int (((script.getD i 0).fdiv 64).fmod 256) u) (nw := []) (lc_src1 _ (It.list I l hne (vs.take 3).toArray (min 3 vs.length) (by simp)) (hA.less (by omega)) (fun A E Q s st hq => wpAny_pyIter_listiter st.1 hq) (by intro _; rfl) (by simp) ?_ ?_) (by omega) (by decide) rfl F ?_ ?_ ?_ hnn (by simp) ?_
      · intro a ha
        rw [List.mem_singleton.mp ha]; exact oI.1
      · intro C2 i v h5 t5 m5 hC2 hi2 hv F
        obtain ⟨uy, hyv⟩ := ints_at hi i (by omega)
        rw [List.getElem?_toArray, List.getElem?_take, if_pos (by omega), hyv] at hv
        obtain rfl := Option.some.inj hv
        refine wpAny_assign_Name ?_
        repeat tb_rel
        refine i_div (by decide) (by decide) ?_
        intro _ _
        repeat tb_rel
        refine i_mod (by decide) ?_
        intro _ _
        exact ⟨_, _, _, rfl, F, none, ⟨rfl, _, rfl⟩, fun ob z => by cases z⟩
      · intro a ha
        simp only [List.mem_cons, List.not_mem_nil, or_false] at ha
        rcases ha with rfl | rfl
        · exact ⟨_, hI⟩
        · obtain ⟨o, e, r⟩ := hl4; exact ⟨o, e⟩
      · exact ⟨⟨_, hI, rfl, rfl⟩, hl4⟩
      · intro a ha
        rw [List.mem_singleton.mp ha]; exact oI
      · intro D h6 t6 ys nD hD F oD hsz hel
        repeat tb_rel
        refine bintsN (vs := ys.toList) (ns := keyI script) (by simpa using hD.isList) (ints_arr (by rw [hsz]; simp [keyI, hvl]) fun i hi3 => ?_) (fun n hn2 => ?_) (by simp [hsz]; omega) hA.hd ?_
        · have hi3 : i < min 3 script.length := by simpa [keyI] using hi3
          obtain ⟨o, ⟨_, u, e⟩, _⟩ := hel i (by omega)
          refine ⟨u, e.trans ?_⟩
          congr 1
          simp [keyI, List.getD_eq_getElem?_getD, List.getElem?_take, show i < 3 by omega, show i < script.length by omega]
        · obtain ⟨x, _, rfl⟩ := List.mem_map.mp hn2
          exact fm_rng _
        · intro h7 u7 t7 k7
          replace F := F.kept k7
          refine b_truth (by rw [byteArr_size]; simp [keyI]; omega) ?_
          intro _
          by_cases hs0 : script = []
          · rw [if_neg (by subst hs0; simp [keyI, byteArr])]
            refine BoolOp_one ?_
            refine e_bytes ?_
            repeat tb_rel
            exact ⟨rfl, _, _, _, _, _, _, rfl, F.mark, by with_unfolding_all assumption, by with_unfolding_all assumption, by with_unfolding_all assumption, by with_unfolding_all assumption, by with_unfolding_all assumption, by with_unfolding_all assumption, by with_unfolding_all assumption, by rw [keyL, if_pos hs0]; with_unfolding_all rfl⟩
          · rw [if_pos (by
              have : script.length ≠ 0 := fun q => hs0 (List.length_eq_zero_iff.mp q)
              rw [byteArr_size]; simp [keyI]; omega)]
            repeat tb_rel
            exact ⟨rfl, _, _, _, _, _, _, rfl, F.mark, by with_unfolding_all assumption, by with_unfolding_all assumption, by with_unfolding_all assumption, by with_unfolding_all assumption, by with_unfolding_all assumption, by with_unfolding_all assumption, by with_unfolding_all assumption, by rw [keyL, if_neg hs0]; with_unfolding_all rfl⟩
    · rintro s' ⟨h, g, t, m, cm, u4, rfl, F, m1, m2, m3, c1, c2, c3, m4, c4⟩
      repeat tb_rel
      refine repeat_ok (hA.less (by omega)) (F.top X) (keyL_ne script) (keyL_len script) k1 k6 ?_
      lcg_src
      repeat ((fail_if_success (with_reducible refine at_cons ?_)); tb_rel)
      exact next _ _ _ _ _ _ _ _ _ _ _ F.mark (by with_unfolding_all assumption) (by with_unfolding_all assumption) (by with_unfolding_all assumption) (by with_unfolding_all assumption) (by with_unfolding_all assumption) (by with_unfolding_all assumption) (by with_unfolding_all assumption) (by with_unfolding_all assumption) (by with_unfolding_all rfl)
end
end
section
local macro_rules | `(tactic| tb_rel) => `(tactic| (with_reducible show wpAny _ _ (eval (Expr.Name _ _) _) _ _ _; with_reducible refine wCe $(Lean.mkIdent `F) (by with_unfolding_all rfl) (by with_unfolding_all rfl) (by with_unfolding_all rfl) (by with_unfolding_all decide) (by with_reducible assumption) (by with_reducible assumption) ?_))
local macro_rules | `(tactic| tb_rel) => `(tactic| with_reducible refine e_bytes ?_)
section
variable {w : World} {A : Around} {E : Value → Shared → Prop} {Q : Flow → Shared → Prop} {hp h : Heap} {g : Array GenState} {d : Drawn} {t : Nat} {os : OsState} {sl L : Addr} {vs : List Value} {script : List Int} {first : Int} {m cm : Str → Option Value} {u u' u2 u3 u4 u5 : Tok} {chars : Array UInt8} {t1 : Tok} {p : EngP} {e : Addr} {big : Bool} {od : Obj} {k : Nat}
def padA (script : List Int) (k : Nat) : Array UInt8 := letA script ++ ((List.replicate k ([0] : List UInt8)).flatten).toArray
theorem padA_size (script : List Int) (k : Nat) : (padA script k).size = (letA script).size + k := by
  unfold padA; simp
theorem cyc_arr {l : List UInt8} {k : Nat} : byteArr ((List.range k).map fun i => ((l.getD (i % l.length) 0).toNat : Int)) = (cycle l k).toArray := by
  unfold byteArr cycle
  rw [List.map_map]
  congr 1
  refine List.map_congr_left fun i _ => ?_
  show (((l.getD (i % l.length) 0).toNat : Int).toNat).toUInt8 = _
  rw [Int.toNat_natCast]; simp
theorem seg_d {g : BG} (hA : AOk A 47) (X : Top w (strike hp)) (k1 : 1 ≤ k) (k6 : k ≤ 6) (C : Chs chars) (tab : EngTab chars od)
    (F : WkT (strike hp) L (LCs L) h h m cm (engNews p e chars big od)) (m1 : m "first" = some (.int first u)) (m2 : m "engine" = some (.ref e)) (m3 : m "k" = some (.int (k : Nat) u2)) (c1 : cm "script" = some (.ref sl)) (c2 : cm "signs" = some (.str (strL (natsOf chars)) u')) (c3 : cm "big" = some (.bool big))
    (m4 : m "letter" = some (.bytes (letA script) u3)) (c4 : cm "key" = some (.bytes (keyL script).toArray u4)) (m5 : m "mask" = some (.bytes (cycle (keyL script) k).toArray u5))
    (next : ∀ h' (g' : BG) t' m' cm' u u' u2 u3 u4 u5 u6 W, WkT (strike hp) L (LCs L) h' h' m' cm' ((W, listO #[] 0) :: engNews p e chars big od) → m' "first" = some (.int first u) → m' "engine" = some (.ref e) → m' "k" = some (.int (k : Nat) u2) → cm' "script" = some (.ref sl) → cm' "signs" = some (.str (strL (natsOf chars)) u') → cm' "big" = some (.bool big) →
      m' "letter" = some (.bytes (letA script) u3) → cm' "key" = some (.bytes (keyL script).toArray u4) → m' "mask" = some (.bytes (cycle (keyL script) k).toArray u5) → cm' "padded" = some (.bytes (padA script k) u6) → m' "words" = some (.ref W) →
      wpAny (model pg w) A (execs (B322 13) (LEnv L)) Q (fun _ _ => False) ⟨h', g', d, t', os⟩) :
    wpAny (model pg w) A (execs (B322 10) (LEnv L)) Q (fun _ _ => False) ⟨h, g, d, t, os⟩ := by
  have hkl := keyL_len script
  have hkp := List.length_pos_iff.mpr (keyL_ne script)
  refine s_join (fun s' => ∃ h', ∃ g' : BG, ∃ t' m' cm', s' = ⟨h', g', d, t', os⟩ ∧ WkT (strike hp) L (LCs L) h' h' m' cm' (engNews p e chars big od) ∧ m' "first" = some (.int first u) ∧ m' "engine" = some (.ref e) ∧ m' "k" = some (.int (k : Nat) u2) ∧ cm' "script" = some (.ref sl) ∧ cm' "signs" = some (.str (strL (natsOf chars)) u') ∧ cm' "big" = some (.bool big) ∧ m' "letter" = some (.bytes (letA script) u3) ∧ cm' "key" = some (.bytes (keyL script).toArray u4) ∧ m' "mask" = some (.bytes (cycle (keyL script) k).toArray u5)) ?_ ?_
  · repeat tb_rel
    refine or_f ?_
    repeat tb_rel
    refine ga_charmap (hA.less (by omega)) (F.top X) (eng_of F tab C.size fun _ q => q).out ?_
    lcg_src
    rw [strOf_L]
    repeat tb_rel
    refine s_ne_same rfl ?_
    repeat tb_rel
    refine ⟨rfl, or_f ?_⟩
    repeat tb_rel
    refine lc_eval (by rfl) rfl (by decide) ?_ (by intro _; rfl)
    repeat tb_rel
    refine i_range1 ?_
    intro h3 t3 r u7 u8 k3 hr nr
    replace F := F.kept k3
    clear nr k3
    refine pyIter_rng hr (small1 (by omega)) ?_
    intro h4 I k4 hI nI
    have oI := F.ownNew nI
    have hnn := F.notIn nI
    replace F := (F.kept k4).mark
    obtain ⟨okey, hokey, hdkey⟩ : ∃ o, h4.get? _ = some o ∧ o.data = .cell (cm "key") := F.C.cell "key" _ (by rfl)
    rw [c4] at hdkey
    refine lc_val (El := fun i y o => o = none ∧ ∃ u, y = .int (((keyL script).getD (i % (keyL script).length) 0).toNat : Int) u) (nw := [(L + 1 + 1 + 1 + 1 + 1, okey)]) (lc_src1 _ (It.range I 0 1 k) (hA.less (by omega)) (fun A E Q s st hq => pyIter_ri st hq) (by intro _; rfl) ?_ ?_ ?_) (by omega) (by decide) rfl F ?_ ?_ ?_ hnn ?_ ?_
    · intro p hp
      rw [List.mem_singleton.mp hp]
      exact F.cellNw (n := "key") oI (by rfl)
    · intro a ha
      rw [List.mem_singleton.mp ha]; exact oI.1
    · intro C2 i v h5 t5 m5 hC2 hi hv F
      obtain ⟨u, rfl⟩ := hv
      have mkey : (L + 1 + 1 + 1 + 1 + 1, okey) ∈ [(L + 1 + 1 + 1 + 1 + 1, okey)] := List.mem_cons_self ..
      refine wpAny_assign_Name ?_
      repeat tb_rel
      refine up hA (x_len_bytes (F.top X) (by simp; omega) ?_)
      lcg_src
      repeat tb_rel
      refine i_mod (by rw [List.size_toArray]; omega) ?_
      intro _ _
      rw [show (0 + (i : Int) * 1).fmod (((keyL script).toArray.size : Nat) : Int) = ((i % (keyL script).length : Nat) : Int) by rw [Int.fmod_eq_emod_of_nonneg _ (by omega)]; simp]
      have hm := Nat.mod_lt i hkp
      refine tl_bi (by omega) (by rw [Int.toNat_natCast, List.size_toArray]; exact hm) (by simp; omega) ?_ (by with_unfolding_all rfl) (by intro _; with_unfolding_all rfl)
      intro _ _
      rw [Int.toNat_natCast]
      exact ⟨_, _, _, rfl, F, none, ⟨rfl, _, by simp [Array.getD_eq_getD_getElem?, List.getD_eq_getElem?_getD]; rfl⟩, fun ob z => by cases z⟩
    · intro a ha
      rw [List.mem_singleton.mp ha]; exact ⟨_, hI⟩
    · show IsRangeIter h4 I _ _ 1
      unfold IsRangeIter
      rw [hI, rangeSize_one]
      congr 5
      rw [show (if (0 : Int) < ((k : Nat) : Int) then ((k : Nat) : Int) - 0 else 0) = ((k : Nat) : Int) - ((0 : Nat) : Int) by split <;> omega]
    · intro a ha
      rw [List.mem_singleton.mp ha]; exact oI
    · intro p hp
      rw [List.mem_singleton.mp hp]
      exact ⟨hokey, (F.cellNw (n := "key") oI (by rfl)).1⟩
    · intro D h6 t6 ys nD hD F oD hsz hel
      repeat tb_rel
      refine bintsN (vs := ys.toList) (ns := (List.range k).map fun i => (((keyL script).getD (i % (keyL script).length) 0).toNat : Int)) (by simpa using hD.isList) (ints_arr (by rw [hsz]; simp) fun i hi3 => ?_) (fun n hn2 => ?_) (by simp [hsz]; omega) hA.hd ?_
      · have hi3 : i < k := by simpa using hi3
        obtain ⟨o, ⟨_, u, e⟩, _⟩ := hel i hi3
        refine ⟨u, e.trans ?_⟩
        congr 1
        simp [List.getD_eq_getElem?_getD, hi3]
      · obtain ⟨x, _, rfl⟩ := List.mem_map.mp hn2
        have := UInt8.toNat_lt ((keyL script).getD (x % (keyL script).length) 0)
        omega
      · intro h7 u7 t7 k7
        replace F := F.kept k7
        rw [cyc_arr]
        refine b_ne_same rfl ?_
        repeat tb_rel
        refine ⟨rfl, or_nil ?_⟩
        repeat tb_rel
        exact ⟨rfl, _, _, _, _, _, rfl, F.mark, by with_unfolding_all assumption, by with_unfolding_all assumption, by with_unfolding_all assumption, by with_unfolding_all assumption, by with_unfolding_all assumption, by with_unfolding_all assumption, by with_unfolding_all assumption, by with_unfolding_all assumption, by with_unfolding_all assumption⟩
  · rintro s' ⟨h, g, t, m, cm, rfl, F, m1, m2, m3, c1, c2, c3, m4, c4, m5⟩
    repeat tb_rel
    refine b_mul (by simp) (by omega) (by omega) (by simp) ?_
    intro _ _
    rw [Int.toNat_natCast]
    repeat tb_rel
    refine b_add (by rw [letA_size]; simp; omega) ?_
    intro _ _
    repeat ((fail_if_success (with_reducible refine at_cons ?_)); tb_rel)
    refine s_cons ?_
    repeat tb_rel
    refine e_list ?_
    repeat tb_rel
    refine list_q (by simp) ?_
    intro h2 W k2 hW nW
    replace F := F.add k2 hW nW
    repeat ((fail_if_success (with_reducible refine at_cons ?_)); tb_rel)
    exact next _ _ _ _ _ _ _ _ _ _ _ _ _ F.mark (by with_unfolding_all assumption) (by with_unfolding_all assumption) (by with_unfolding_all assumption) (by with_unfolding_all assumption) (by with_unfolding_all assumption) (by with_unfolding_all assumption) (by with_unfolding_all assumption) (by with_unfolding_all assumption) (by with_unfolding_all assumption) (by with_unfolding_all rfl) (by with_unfolding_all rfl)
end
end
section
local macro_rules | `(tactic| tb_rel) => `(tactic| (with_reducible show wpAny _ _ (eval (Expr.Name _ _) _) _ _ _; with_reducible refine wCe $(Lean.mkIdent `F) (by with_unfolding_all rfl) (by with_unfolding_all rfl) (by with_unfolding_all rfl) (by with_unfolding_all decide) (by with_reducible assumption) (by with_reducible assumption) ?_))
local macro_rules | `(tactic| tb_rel) => `(tactic| with_reducible refine e_bytes ?_)
/-- the i-th piece of the letter, hidden -/
def hidA (script : List Int) (k i : Nat) : Array UInt8 := (hidL (letA script).toList (keyL script) k i).toArray
def wdig (script : List Int) (big : Bool) (k i : Nat) : List Nat := lawDig big (hidA script k i)
def WL (script : List Int) (chars : Array UInt8) (big : Bool) (k n : Nat) : List (List Nat) := (List.range n).map fun i => wordL chars (wdig script big k i)
def nW (script : List Int) (k : Nat) : Nat := nPieces (letA script).size k
theorem hidA_size (script : List Int) (k i : Nat) : (hidA script k i).size = k := by unfold hidA; simp [hidL_len]
theorem letA_le (script : List Int) : (letA script).size ≤ 12 := by rw [letA_size]; omega
theorem nW_le (script : List Int) {k : Nat} (h : 1 ≤ k) : nW script k ≤ 12 := Nat.le_trans (nP_le _ k h) (letA_le script)
theorem rng_small {n k : Nat} (h : n ≤ 12) (h1 : 1 ≤ k) (h6 : k ≤ 6) : Builtin.Range.small 0 (n : Int) (k : Int) = true := by
  have := (by decide : ∀ n : Fin 13, ∀ k : Fin 7, 1 ≤ k.val → Builtin.Range.small 0 ((n.val : Nat) : Int) ((k.val : Nat) : Int) = true) ⟨n, by omega⟩ ⟨k, by omega⟩ h1
  exact this
theorem rng_size {n k : Nat} (h : n ≤ 12) (h1 : 1 ≤ k) (h6 : k ≤ 6) : Builtin.Range.rangeSize 0 (n : Int) (k : Int) = (nPieces n k : Nat) := by
  have := (by decide : ∀ n : Fin 13, ∀ k : Fin 7, 1 ≤ k.val → Builtin.Range.rangeSize 0 ((n.val : Nat) : Int) ((k.val : Nat) : Int) = ((nPieces n.val k.val : Nat) : Int)) ⟨n, by omega⟩ ⟨k, by omega⟩ h1
  exact this
theorem pad_at (script : List Int) (k n : Nat) : (padA script k).getD n 0 = (letA script).toList.getD n 0 := by
  unfold padA
  rw [Array.getD_eq_getD_getElem?, List.getD_eq_getElem?_getD, Array.getElem?_append]
  split
  · rename_i h
    rw [Array.getElem?_toList]
  · rename_i h
    rw [List.getElem?_eq_none (by rw [Array.length_toList]; omega), List.getElem?_toArray, show ([0] : List UInt8) = List.replicate 1 0 from rfl, List.flatten_replicate_replicate, List.getElem?_replicate]
    split <;> rfl
theorem hid_at (script : List Int) (k i j : Nat) (hj : j < k) : (hidA script k i).getD j 0 = (letA script).toList.getD (k * i + j) 0 ^^^ (keyL script).getD (j % (keyL script).length) 0 := by
  unfold hidA
  rw [Array.getD_eq_getD_getElem?, List.getElem?_toArray, hidL_at _ _ _ _ _ hj]; rfl
theorem arr_back (b : Array UInt8) : byteArr ((List.range b.size).map fun j => ((b.getD j 0).toNat : Int)) = b := by
  unfold byteArr
  rw [List.map_map]
  refine Array.ext_getElem? fun j => ?_
  rw [List.getElem?_toArray, List.getElem?_map]
  rcases Nat.lt_or_ge j b.size with h | h
  · rw [List.getElem?_range h, Array.getElem?_eq_getElem h]
    simp [Array.getD, h]
  · rw [List.getElem?_eq_none (by simpa using h), Array.getElem?_eq_none h]; rfl
theorem strs_push {ys : Array Value} {ls : List (List Nat)} (S : StrsAre ys ls) (l : List Nat) (u : Tok) : StrsAre (ys.push (.str (strL l) u)) (ls ++ [l]) := by
  refine ⟨by rw [Array.size_push, S.1, List.length_append]; rfl, fun i hi => ?_⟩
  rw [List.length_append, List.length_singleton] at hi
  rw [Array.getD_eq_getD_getElem?, Array.getElem?_push, List.getD_eq_getElem?_getD]
  rcases Nat.lt_or_eq_of_le (Nat.le_of_lt_succ hi) with h | h
  · obtain ⟨v, e⟩ := S.2 i h
    refine ⟨v, ?_⟩
    rw [if_neg (by rw [S.1]; omega), List.getElem?_append_left h, ← List.getD_eq_getElem?_getD, ← e, Array.getD_eq_getD_getElem?]
  · subst h
    refine ⟨u, ?_⟩
    rw [if_pos S.1.symm, List.getElem?_append_right (Nat.le_refl _)]
    simp
theorem WL_succ (script : List Int) (chars : Array UInt8) (big : Bool) (k n : Nat) : WL script chars big k (n + 1) = WL script chars big k n ++ [wordL chars (wdig script big k n)] := by
  unfold WL; rw [List.range_succ, List.map_append]; rfl
section
variable {w : World} {A : Around} {E : Value → Shared → Prop} {Q : Flow → Shared → Prop} {hp h : Heap} {g : Array GenState} {d : Drawn} {t : Nat} {os : OsState} {sl L W : Addr} {vs : List Value} {script : List Int} {first : Int} {m cm : Str → Option Value} {u u' u2 u3 u4 u5 u6 : Tok} {chars : Array UInt8} {t1 : Tok} {p : EngP} {e : Addr} {big : Bool} {od : Obj} {k : Nat}
theorem eng_nolist (tab : EngTab chars od) {x : Addr × Obj} (hx : x ∈ engNews p e chars big od) : x.2.cls ≠ .type "list" := by
  obtain ⟨G, h2, a, ha, ⟨o, es, ep, ho, hc, _⟩, r⟩ := tab.go
  rw [ha] at ho; cases ho
  simp only [engNews, List.mem_cons, List.not_mem_nil, or_false] at hx
  rcases hx with rfl | rfl | rfl | rfl | rfl | rfl | rfl
  all_goals first
    | (intro q; cases q; done)
    | (intro q; simp [engDict, instObj, wrapObj, bmObj, methodObj] at q; done)
    | (intro q; dsimp only at q; rw [hc] at q; simp at q; done)
theorem seg_e {g : BG} (hA : AOk A 47) (X : Top w (strike hp)) (k1 : 1 ≤ k) (k6 : k ≤ 6) (C : Chs chars) (tab : EngTab chars od)
    (F : WkT (strike hp) L (LCs L) h h m cm ((W, listO #[] 0) :: engNews p e chars big od)) (m1 : m "first" = some (.int first u)) (m2 : m "engine" = some (.ref e)) (m3 : m "k" = some (.int (k : Nat) u2)) (c1 : cm "script" = some (.ref sl)) (c2 : cm "signs" = some (.str (strL (natsOf chars)) u')) (c3 : cm "big" = some (.bool big))
    (m4 : m "letter" = some (.bytes (letA script) u3)) (c4 : cm "key" = some (.bytes (keyL script).toArray u4)) (m5 : m "mask" = some (.bytes (cycle (keyL script) k).toArray u5)) (c5 : cm "padded" = some (.bytes (padA script k) u6)) (m6 : m "words" = some (.ref W))
    (next : ∀ h' (g' : BG) t' m' cm' ys n, WkT (strike hp) L (LCs L) h' h' m' cm' ((W, listO ys n) :: engNews p e chars big od) → StrsAre ys (WL script chars big k (nW script k)) → m' "first" = some (.int first u) → m' "engine" = some (.ref e) → m' "k" = some (.int (k : Nat) u2) → cm' "script" = some (.ref sl) → cm' "signs" = some (.str (strL (natsOf chars)) u') → cm' "big" = some (.bool big) →
      m' "letter" = some (.bytes (letA script) u3) → m' "mask" = some (.bytes (cycle (keyL script) k).toArray u5) → m' "words" = some (.ref W) →
      wpAny (model pg w) A (execs (B322 14) (LEnv L)) Q (fun _ _ => False) ⟨h', g', d, t', os⟩) :
    wpAny (model pg w) A (execs (B322 13) (LEnv L)) Q (fun _ _ => False) ⟨h, g, d, t, os⟩ := by
  have hkl := keyL_len script
  have hkp := List.length_pos_iff.mpr (keyL_ne script)
  have hll := letA_le script
  have hnw := nW_le script k1
  refine s_join (fun s' => ∃ h', ∃ g' : BG, ∃ t' m' cm' ys n, s' = ⟨h', g', d, t', os⟩ ∧ WkT (strike hp) L (LCs L) h' h' m' cm' ((W, listO ys n) :: engNews p e chars big od) ∧ StrsAre ys (WL script chars big k (nW script k)) ∧ m' "first" = some (.int first u) ∧ m' "engine" = some (.ref e) ∧ m' "k" = some (.int (k : Nat) u2) ∧ cm' "script" = some (.ref sl) ∧ cm' "signs" = some (.str (strL (natsOf chars)) u') ∧ cm' "big" = some (.bool big) ∧
      m' "letter" = some (.bytes (letA script) u3) ∧ m' "mask" = some (.bytes (cycle (keyL script) k).toArray u5) ∧ m' "words" = some (.ref W)) ?_ ?_
  · repeat tb_rel
    refine up hA (x_len_bytes (F.top X) (by omega) ?_)
    lcg_src
    repeat tb_rel
    refine i_range3 (by omega) (by omega) ?_
    intro h3 t3 r k3 hr nr
    replace F := F.kept k3
    clear k3 nr
    refine pyIter_rng hr (rng_small hll k1 k6) ?_
    intro h4 I k4 hI nI
    rw [rng_size hll k1 k6] at hI
    have oI := F.ownNew nI
    have hnn0 := F.notIn nI
    have hnn : ∀ ys n, ∀ x ∈ (W, listO ys n) :: engNews p e chars big od, x.1 ∉ [I] := fun ys n x q => by
      rcases List.mem_cons.mp q with rfl | q
      · exact hnn0 (W, listO #[] 0) (List.mem_cons_self ..)
      · exact hnn0 x (List.mem_cons_of_mem _ q)
    clear hnn0
    replace F := (F.kept k4).mark
    clear k4
    refine for_1 (It.range (w := w) I 0 (k : Int) (nW script k)) (hA.less (by omega)) (fun i s => ∃ h, ∃ g : BG, ∃ t m cm ys n, s = ⟨h, g, d, t, os⟩ ∧ WkT (strike hp) L (LCs L) h h m cm ((W, listO ys n) :: engNews p e chars big od) ∧ IsRangeIter h I (0 + (i : Int) * (k : Int)) (((nW script k : Nat) : Int) - i) k ∧ StrsAre ys (WL script chars big k i) ∧ m "first" = some (.int first u) ∧ m "engine" = some (.ref e) ∧ m "k" = some (.int (k : Nat) u2) ∧ cm "script" = some (.ref sl) ∧ cm "signs" = some (.str (strL (natsOf chars)) u') ∧ cm "big" = some (.bool big) ∧
      m "letter" = some (.bytes (letA script) u3) ∧ cm "key" = some (.bytes (keyL script).toArray u4) ∧ m "mask" = some (.bytes (cycle (keyL script) k).toArray u5) ∧ cm "padded" = some (.bytes (padA script k) u6) ∧ m "words" = some (.ref W)) ?_ ?_ ?_ ?_
    · rintro i s ⟨h, g, t, m, cm, ys, n, rfl, F, st, _⟩
      exact st
    · rintro i s s₁ v hi ⟨h, g, t, m, cm, ys, n, rfl, F, st, S, m1, m2, m3, c1, c2, c3, m4, c4, m5, c5, m6⟩ ⟨ui, rfl⟩ st₁ mv
      obtain ⟨h4, t4, rfl⟩ := mv.shaped
      replace F := F.mv mv (fun a ha => by rw [List.mem_singleton.mp ha]; exact oI) (hnn _ _)
      dsimp only at F
      obtain ⟨nf, enf, FN⟩ := F.ownL (fp := [I]) (fun b hb => by rw [List.mem_singleton.mp hb]; exact ⟨_, st₁⟩) (fun a ha => by rw [List.mem_singleton.mp ha]; exact oI)
      have hWn : W ∉ nf.map (·.1) := by rw [enf]; exact hnn ys n _ (List.mem_cons_self ..)
      replace F := FN
      have hik : k * i < (letA script).size := nP_lt _ _ _ k1 hi
      rw [show (0 : Int) + (i : Int) * (k : Int) = ((k * i : Nat) : Int) by rw [Int.zero_add, ← Int.natCast_mul, Nat.mul_comm]]
      repeat tb_rel
      refine tl_B (.int _ _) (.int _ _) (by omega) ?_ (by intro _; with_unfolding_all rfl) (by intro _; with_unfolding_all rfl)
      lcg_src
      rw [cut_piece _ _ _ (by rw [Array.length_toList]; omega)]
      repeat tb_rel
      refine pad_ok (hA.less (by omega)) (F.top X) (by simp; omega) (by omega) ?_
      lcg_src
      repeat tb_rel
      refine xor_ok (hA.less (by omega)) (F.top X) (by simp [padTo_len, cycle_len]) (by simp [padTo_len]; omega) ?_
      lcg_src
      rw [show (List.zipWith (fun x1 x2 => x1 ^^^ x2) (padTo ((List.drop (k * i) (letA script).toList).take k).toArray.toList k).toArray.toList (cycle (keyL script) k).toArray.toList).toArray = hidA script k i from rfl]
      repeat tb_rel
      refine lc_eval (by rfl) rfl (by decide) ?_ (by intro _; rfl)
      repeat tb_rel
      refine i_range1 ?_
      intro h5 t5 r5 u7 u8 k5 hr5 nr5
      replace F := F.kept k5
      clear nr5 k5
      refine pyIter_rng hr5 (small1 (by omega)) ?_
      intro h6 I2 k6' hI2 nI2
      have oI2 := F.ownNew nI2
      have hnn2 := F.notIn nI2
      replace F := (F.kept k6').mark
      clear k6'
      obtain ⟨oi, hoi, hdi⟩ : ∃ o, h6.get? _ = some o ∧ o.data = .cell (some (.int ((k * i : Nat) : Int) ui)) := F.C.cell "i" _ (by rfl)
      obtain ⟨okey, hokey, hdkey⟩ : ∃ o, h6.get? _ = some o ∧ o.data = .cell (cm "key") := F.C.cell "key" _ (by rfl)
      obtain ⟨opad, hopad, hdpad⟩ : ∃ o, h6.get? _ = some o ∧ o.data = .cell (cm "padded") := F.C.cell "padded" _ (by rfl)
      rw [c4] at hdkey
      rw [c5] at hdpad
      refine lc_val (El := fun j y o => o = none ∧ ∃ u, y = .int (((hidA script k i).getD j 0).toNat : Int) u) (nw := [(L + 1 + 1, oi), (L + 1 + 1 + 1 + 1 + 1, okey), (L + 1 + 1 + 1 + 1 + 1 + 1, opad)]) (lc_src1 _ (It.range I2 0 1 k) (hA.less (by omega)) (fun A E Q s st hq => pyIter_ri st hq) (by intro _; rfl) ?_ ?_ ?_) (by omega) (by decide) rfl F ?_ ?_ ?_ hnn2 ?_ ?_
      · intro x hx
        simp only [List.mem_cons, List.not_mem_nil, or_false] at hx
        rcases hx with rfl | rfl | rfl
        · exact F.cellNw (n := "i") oI2 (by rfl)
        · exact F.cellNw (n := "key") oI2 (by rfl)
        · exact F.cellNw (n := "padded") oI2 (by rfl)
      · intro a ha
        rw [List.mem_singleton.mp ha]; exact oI2.1
      · intro C2 j v h7 t7 m7 hC2 hj hv F
        obtain ⟨uj, rfl⟩ := hv
        have mi : (L + 1 + 1, oi) ∈ [(L + 1 + 1, oi), (L + 1 + 1 + 1 + 1 + 1, okey), (L + 1 + 1 + 1 + 1 + 1 + 1, opad)] := by simp
        have mkey : (L + 1 + 1 + 1 + 1 + 1, okey) ∈ [(L + 1 + 1, oi), (L + 1 + 1 + 1 + 1 + 1, okey), (L + 1 + 1 + 1 + 1 + 1 + 1, opad)] := by simp
        have mpad : (L + 1 + 1 + 1 + 1 + 1 + 1, opad) ∈ [(L + 1 + 1, oi), (L + 1 + 1 + 1 + 1 + 1, okey), (L + 1 + 1 + 1 + 1 + 1 + 1, opad)] := by simp
        refine wpAny_assign_Name ?_
        rw [show (0 : Int) + (j : Int) * 1 = (j : Int) by omega]
        repeat tb_rel
        refine tl_bi (i := ((k * i : Nat) : Int) + (j : Int)) (by omega) (by rw [padA_size]; omega) (by rw [padA_size]; omega) ?_ (by with_unfolding_all rfl) (by intro _; with_unfolding_all rfl)
        intro _ _
        repeat tb_rel
        refine up hA (x_len_bytes (F.top X) (by simp; omega) ?_)
        lcg_src
        repeat tb_rel
        refine i_mod (by rw [List.size_toArray]; omega) ?_
        intro _ _
        rw [show (j : Int).fmod (((keyL script).toArray.size : Nat) : Int) = ((j % (keyL script).length : Nat) : Int) by rw [Int.fmod_eq_emod_of_nonneg _ (by omega)]; simp]
        have hm := Nat.mod_lt j hkp
        refine tl_bi (by omega) (by rw [Int.toNat_natCast, List.size_toArray]; exact hm) (by simp; omega) ?_ (by with_unfolding_all rfl) (by intro _; with_unfolding_all rfl)
        intro _ _
        repeat tb_rel
        rw [bitXor_nat]
        refine ⟨_, _, _, rfl, F, none, ⟨rfl, _, congrArg (fun z => Value.int z _) ?_⟩, fun ob z => by cases z⟩
        rw [hid_at _ _ _ _ hj, show (((k * i : Nat) : Int) + (j : Int)).toNat = k * i + j by omega, pad_at, UInt8.toNat_xor, Int.toNat_natCast]
        rw [show (keyL script).toArray.getD (j % (keyL script).length) 0 = (keyL script).getD (j % (keyL script).length) 0 by simp [Array.getD_eq_getD_getElem?, List.getD_eq_getElem?_getD]]
      · intro a ha
        rw [List.mem_singleton.mp ha]; exact ⟨_, hI2⟩
      · show IsRangeIter h6 I2 _ _ 1
        unfold IsRangeIter
        rw [hI2, rangeSize_one]
        congr 5
        rw [show (if (0 : Int) < ((k : Nat) : Int) then ((k : Nat) : Int) - 0 else 0) = ((k : Nat) : Int) - ((0 : Nat) : Int) by split <;> omega]
      · intro a ha
        rw [List.mem_singleton.mp ha]; exact oI2
      · intro x hx
        simp only [List.mem_cons, List.not_mem_nil, or_false] at hx
        rcases hx with rfl | rfl | rfl
        · exact ⟨hoi, (F.cellNw (n := "i") oI2 (by rfl)).1⟩
        · exact ⟨hokey, (F.cellNw (n := "key") oI2 (by rfl)).1⟩
        · exact ⟨hopad, (F.cellNw (n := "padded") oI2 (by rfl)).1⟩
      · intro D h8 t8 zs nD hD F oD hsz hel
        repeat tb_rel
        refine bintsN (vs := zs.toList) (ns := (List.range (hidA script k i).size).map fun j => (((hidA script k i).getD j 0).toNat : Int)) (by simpa using hD.isList) (ints_arr (by rw [hsz]; simp [hidA_size]) fun j hj => ?_) (fun n hn2 => ?_) (by simp [hsz]; omega) hA.hd ?_
        · have hj : j < k := by simpa [hidA_size] using hj
          obtain ⟨o, ⟨_, u, e⟩, _⟩ := hel j hj
          refine ⟨u, e.trans ?_⟩
          congr 1
          simp [List.getD_eq_getElem?_getD, hidA_size, hj]
        · obtain ⟨x, _, rfl⟩ := List.mem_map.mp hn2
          have := UInt8.toNat_lt ((hidA script k i).getD x 0)
          omega
        · intro h9 u9 t9 k9
          replace F := F.kept k9
          clear k9 hD nD oD hel hsz hI2 nI2 oI2 hnn2 hoi hdi hokey hdkey hopad hdpad hr5
          rw [arr_back]
          refine b_ne_same rfl ?_
          repeat tb_rel
          have hn : ∀ x ∈ engNews p e chars big od, x ∈ nf ++ (W, listO ys n) :: engNews p e chars big od := fun x q => List.mem_append_right _ (List.mem_cons_of_mem _ q)
          refine MethodCall_ ?_ (by rfl)
          repeat tb_rel
          refine gm_fn (f := 121) (F.top X) (eng_of F tab C.size hn).out (by kernel_rfl) (by kernel_rfl) (by kernel_rfl) ?_
          repeat tb_rel
          refine enc_ok (hA.less (by omega)) (F.top X) (eng_of F tab C.size hn).out (by rw [hidA_size]; omega) ?_
          intro hE gE tE uE kE
          replace F := F.kept kE
          clear kE
          rw [encArr_law chars big _ (by rw [hidA_size]; omega), show lawDig big (hidA script k i) = wdig script big k i from rfl]
          repeat tb_rel
          refine MethodCall_ ?_ (by rfl)
          repeat tb_rel
          refine signs_ok (by rw [hidA_size]; omega) (hA.less (by omega)) (F.top X) F.T C ?_
          intro hS tS uS kS TS
          replace F := F.keptG kS TS
          clear kS TS
          rw [show lawDig big (hidA script k i) = wdig script big k i from rfl]
          repeat tb_rel
          refine gm_encode ?_
          repeat tb_rel
          have hlt := lawDig_lt big (hidA script k i)
          have hlen := lawDig_len big (hidA script k i)
          rw [show lawDig big (hidA script k i) = wdig script big k i from rfl] at hlt hlen
          rw [hidA_size] at hlen
          have hcl : lawCnt k ≤ 100 := by unfold lawCnt; omega
          have hc0 : 1 ≤ lawCnt k := by unfold lawCnt; omega
          refine enc_w C hlt (by omega) ?_
          intro _ _
          repeat tb_rel
          refine b_ne_same rfl ?_
          repeat tb_rel
          refine s_exprN ?_
          refine MethodCall_ ?_ (by rfl)
          repeat tb_rel
          refine getMethod_list_append (F.get (List.mem_append_right _ (List.mem_cons_self ..))) rfl rfl ?_
          repeat tb_rel
          refine MethodCall_ ?_ (by rfl)
          repeat tb_rel
          refine KBd.method ?_
          dsimp only
          refine callWith_method1 ?_
          repeat tb_rel
          refine dec_w C hlt (fun q => by rw [q] at hlen; simp at hlen; omega) (by omega) ?_
          intro uD _
          repeat tb_rel
          refine wpAny_list_append_plain (s := ⟨_, _, _, _, _⟩) ⟨n, F.get (List.mem_append_right _ (List.mem_cons_self ..))⟩ (fun hZ accZ sbZ => ?_) (by rw [sizeLine_eq, S.1]; simp [WL]; omega)
          obtain ⟨nz, hWz⟩ := accZ
          have hnf : ∀ x ∈ nf ++ engNews p e chars big od, x ∈ nf ++ (W, listO ys n) :: engNews p e chars big od ∧ x.1 ≠ W := by
            intro x hx
            rcases List.mem_append.mp hx with hx | hx
            · exact ⟨List.mem_append_left _ hx, fun r => hWn (r ▸ List.mem_map.mpr ⟨x, hx, rfl⟩)⟩
            · refine ⟨hn x hx, fun r => ?_⟩
              have h1 := F.get (a := x.1) (o := x.2) (hn x hx)
              have h2 := F.get (List.mem_append_right nf (List.mem_cons_self (a := (W, listO ys n)) (l := engNews p e chars big od)))
              rw [r, h2] at h1
              exact eng_nolist tab hx (by rw [← Option.some.inj h1])
          replace F := F.put (List.mem_append_right _ (List.mem_cons_self ..)) sbZ hWz hnf
          refine ⟨rfl, ?_⟩
          repeat tb_rel
          refine tq_next ⟨_, _, _, _, _, ys.push (.str (strL (wordL chars (wdig script big k i))) uD), nz, rfl, F.fewer (fun x q => ?_), FN.held (nf := nf) F (fun x q => List.mem_cons_of_mem _ (List.mem_append_left _ q)) I (by rw [enf]; exact List.mem_cons_self ..) _ st₁, (by rw [WL_succ]; exact strs_push S _ _), ?_⟩
          · rcases List.mem_cons.mp q with rfl | q
            · exact List.mem_cons_self ..
            · exact List.mem_cons_of_mem _ (List.mem_append_right _ q)
          · refine ⟨?_, ?_, ?_, ?_, ?_, ?_, ?_, ?_, ?_, ?_, ?_⟩ <;> with_unfolding_all assumption
    · rintro s s₁ ⟨h, g, t, m, cm, ys, n, rfl, F, st, S, m1, m2, m3, c1, c2, c3, m4, c4, m5, c5, m6⟩ mv
      obtain ⟨h4, t4, rfl⟩ := mv.shaped
      refine ⟨rfl, _, _, _, _, _, _, _, rfl, F.mv mv (fun a ha => by rw [List.mem_singleton.mp ha]; exact oI) (hnn _ _), S, m1, m2, m3, c1, c2, c3, m4, m5, m6⟩
    · refine ⟨_, _, _, _, _, _, _, rfl, F, ?_, ⟨rfl, by simp [WL]⟩, m1, m2, m3, c1, c2, c3, m4, c4, m5, c5, m6⟩
      show IsRangeIter h4 I _ _ _
      unfold IsRangeIter
      rw [hI]
      congr 5
      simp
  · rintro s' ⟨h, g, t, m, cm, ys, n, rfl, F, S, m1, m2, m3, c1, c2, c3, m4, m5, m6⟩
    exact next _ _ _ _ _ _ _ F S m1 m2 m3 c1 c2 c3 m4 m5 m6
end
end
section
local macro_rules | `(tactic| tb_rel) => `(tactic| (with_reducible show wpAny _ _ (eval (Expr.Name _ _) _) _ _ _; with_reducible refine wCe $(Lean.mkIdent `F) (by with_unfolding_all rfl) (by with_unfolding_all rfl) (by with_unfolding_all rfl) (by with_unfolding_all decide) (by with_reducible assumption) (by with_reducible assumption) ?_))
local macro_rules | `(tactic| tb_rel) => `(tactic| with_reducible refine e_bytes ?_)
section
variable {w : World} {A : Around} {E : Value → Shared → Prop} {h h' h₀ hz : Heap} {g : Array GenState} {d : Drawn} {t : Nat} {os : OsState} {m cm : Str → Option Value} {news nw : List (Addr × Obj)} {L : Addr} {cs cl : List (Str × Addr)} {elt target iter : PySem.Expr} {scope : Scope} {pos : Pos} {env : Env} {I : Addr} {n c : Nat} {fp wr : List Addr} {b : Builtin} {T id : String} {P : Nat → Value → Prop} {St : Nat → Shared → Prop}
theorem lc_srcG (El : Nat → Value → Option Obj → Prop) (W : It w c b T id I fp wr [] n P St) (hA : AOk A (c + 1)) (hself : ∀ (A : Around) (E : Value → Shared → Prop) (Q : Value → Shared → Prop) s, St 0 s → Q (.ref I) s → wpAny (model pg w) A (pyIter (.ref I)) Q E s)
    (ht : ∀ (A : Around) (E : Value → Shared → Prop) (Q : Unit → Shared → Prop) i v s, P i v → St (i + 1) s → Q () s → wpAny (model pg w) A (letOwnedTupleGo target (.ref I) v) Q E s) (hnw : ∀ p ∈ nw, p.1 ∉ wr ∧ h₀.get? p.1 = none) (hwr : ∀ b ∈ wr, h₀.get? b = none)
    (hstep : ∀ C i v h1 t1 m1, h₀.objs.size ≤ C → i < n → P i v → Wk h₀ C h1 h1 m1 nw →
      wpAny (model pg w) A (assign target (compEnvC scope cl C env) v) (fun _ s₂ => wpAny (model pg w) A (eval elt (compEnvC scope cl C env)) (fun y s₃ => ∃ h2 t2 m2, s₃ = ⟨h2, g, d, t2, os⟩ ∧ Wk h₀ C h1 h2 m2 nw ∧ ElAt El i y [] h1 h2) (fun _ _ => False) s₂) (fun _ _ => False) ⟨h1, g, d, t1, os⟩) :
    LcSrc w A I fp wr n St cl elt target scope env g d os h₀ h nw El where
  sub := W.sub
  self := hself
  fr := fun i s s' st k e => W.frame i s s' st k (fun j hj => by cases hj)
  live := W.live
  turn := fun C i h1 t1 m1 hC hCw hCf hi hst hm hk hw => by
    refine W.py_item hA hi hst fun v s₁ p st₁ mv => ⟨v, rfl, ht _ _ _ i v s₁ p st₁ ?_⟩
    obtain ⟨h2, t2, rfl⟩ := mv.shaped
    have F : Wk h₀ C h2 h2 m1 nw := ⟨⟨hm.at' fun o e => mv.keep _ o hCw e, fun b o e => mv.keep b o (fun q => by rw [hwr b q] at e; cases e) (hk b o (fun q => by rw [hwr b q] at e; cases e) e), hC⟩, fun p q => ⟨mv.keep _ _ (hnw p q).1 (hw p q).1, (hw p q).2, (hnw p q).2⟩, fun _ _ _ e => e⟩
    refine wpAny_mono (hstep C i v h2 t2 m1 hC hi p F) (fun _ s₂ q => wpAny_mono q (fun y s₃ q => ?_) fun _ _ e => e) fun _ _ e => e
    obtain ⟨h3, t3, m3, rfl, F3, hE⟩ := q
    refine ⟨h3, t3, m3, rfl, W.frame _ _ _ st₁ (fun b hb o e => F3.Z b o (fun z => hCf (z ▸ hb)) e) (fun j hj => by cases hj), F3.F.ns, fun b o b1 b2 e => F3.Z b o b2 (mv.keep b o b1 e), ?_⟩
    obtain ⟨o, e, q⟩ := hE
    refine ⟨o, e, fun ob z => ?_⟩
    obtain ⟨T, e1, nb, nT, hT⟩ := q ob z
    refine ⟨T, e1, nb, ?_, hT⟩
    cases e2 : h1.get? T with
    | none => rfl
    | some o2 => obtain ⟨o3, e3⟩ := mv.live _ _ e2; rw [show h2.get? T = some o3 from e3] at nT; cases nT
  done := fun h1 t1 st => W.py_done hA st fun s' mv => ⟨rfl, mv⟩
theorem go_listit {Q : Unit → Shared → Prop} {s : Shared} {l a : Addr} {i : Nat} {elts : List PySem.Expr} {k : Nat} (hI : s.heap.IsListIter I l i) (q : Q () s) : wpAny (model pg w) A (letOwnedTupleGo (.Tuple elts k pos) (.ref I) (.ref a)) Q E s := by
  obtain ⟨o, ho, hc, hd⟩ := hI
  unfold letOwnedTupleGo
  refine wpAny_bind (wpAny_load ho ?_)
  rw [hc, hd]
  refine wpAny_ite_split (fun hb => ?_) (fun _ => wpAny_pure q)
  exfalso
  have : (["enumerate", "zip", "dict_itemiterator", "dict_reverseitemiterator", "odict_iterator", "itertools.zip_longest", "itertools.pairwise"].contains "list_iterator") = false := by decide
  rw [this] at hb; cases hb
theorem WkT.addL (F : WkT h₀ L cs hz h m cm news) {nS : List (Addr × Obj)} (hS : ∀ x ∈ nS, h.get? x.1 = some x.2 ∧ Own h₀ L cs x.1) : WkT h₀ L cs hz h m cm (nS ++ news) :=
  ⟨F.F, fun p q => by
    rcases List.mem_append.mp q with q | q
    · exact hS p q
    · exact F.N p q, F.Z, F.C, F.D, F.T, F.S, F.LT, F.CT⟩
theorem pick_list {α : Type} {P : Nat → α → Prop} : ∀ n, (∀ i < n, ∃ x, P i x) → ∃ l : List α, l.length = n ∧ ∀ i < n, ∃ x, l[i]? = some x ∧ P i x
  | 0, _ => ⟨[], rfl, fun i h => absurd h (Nat.not_lt_zero _)⟩
  | n + 1, h => by
    obtain ⟨l, hl, q⟩ := pick_list n fun i hi => h i (by omega)
    obtain ⟨x, hx⟩ := h n (by omega)
    refine ⟨l ++ [x], by simp [hl], fun i hi => ?_⟩
    rcases Nat.lt_or_eq_of_le (Nat.le_of_lt_succ hi) with h1 | h1
    · obtain ⟨y, e, r⟩ := q i h1
      exact ⟨y, by rw [List.getElem?_append_left (by omega)]; exact e, r⟩
    · subst h1
      exact ⟨x, by rw [List.getElem?_append_right (by omega), hl]; simp, hx⟩
end
def jj (script : List Int) (k i : Nat) : Nat := (((script.getD i 0).fdiv 7) % ((2 ^ freeN (lawCnt k) : Nat) : Int)).toNat
theorem jj_is (script : List Int) (k i : Nat) : ((script.getD i 0).fdiv 7) % ((2 ^ freeN (lawCnt k) : Nat) : Int) = (jj script k i : Int) ∧ jj script k i < 2 ^ freeN (lawCnt k) := by
  unfold jj
  have hp : (0 : Int) < ((2 ^ freeN (lawCnt k) : Nat) : Int) := by have := Nat.two_pow_pos (freeN (lawCnt k)); omega
  have h1 := Int.emod_nonneg ((script.getD i 0).fdiv 7) (Int.ne_of_gt hp)
  have h2 := Int.emod_lt_of_pos ((script.getD i 0).fdiv 7) hp
  omega
/-- the digits of the i-th word, spoiled -/
def sdig (script : List Int) (big : Bool) (k i : Nat) : List Nat := spoilL big (jj script k i) (wdig script big k i)
def SL (script : List Int) (chars : Array UInt8) (big : Bool) (k n : Nat) : List (List Nat) := (List.range n).map fun i => wordL chars (sdig script big k i)
def SpO (script : List Int) (chars : Array UInt8) (big : Bool) (k i : Nat) (o : Obj) : Prop := ∃ u, o = tupObj (.bool (jj script k i != 0)) (.str (strL (wordL chars (sdig script big k i))) u)
/-- a list of pairs, each laid among the news -/
structure Sps (script : List Int) (chars : Array UInt8) (big : Bool) (k n : Nat) (ys : Array Value) (nS : List (Addr × Obj)) : Prop where
  sz : ys.size = n
  ln : nS.length = n
  at' : ∀ i < n, ∃ x : Addr × Obj, nS[i]? = some x ∧ ys[i]? = some (.ref x.1) ∧ SpO script chars big k i x.2
theorem wspoils (script : List Int) (big : Bool) {k : Nat} (i : Nat) (k1 : 1 ≤ k) (k6 : k ≤ 6) : Spoils big (hidA script k i) (jj script k i) :=
  spoils big (hidA script k i) (jj script k i) (by rw [hidA_size]; omega) (by rw [hidA_size]; omega) (by rw [hidA_size]; exact (jj_is script k i).2)
section
variable {w : World} {A : Around} {E : Value → Shared → Prop} {Q : Flow → Shared → Prop} {hp h : Heap} {g : Array GenState} {d : Drawn} {t n : Nat} {os : OsState} {sl L W : Addr} {vs : List Value} {script : List Int} {first : Int} {m cm : Str → Option Value} {u u' u2 u3 u4 u5 u6 : Tok} {chars : Array UInt8} {t1 : Tok} {p : EngP} {e : Addr} {big : Bool} {od : Obj} {k : Nat} {ys : Array Value}
theorem WkT.cellNw2 {h₀ hz h : Heap} {cs : List (Str × Addr)} {news : List (Addr × Obj)} {x : Str} {c en I : Addr} (F : WkT h₀ L cs hz h m cm news) (w1 : Own h₀ L cs en) (w2 : Own h₀ L cs I) (e : cs.lookup x = some c) : c ∉ [en] ++ [I] ∧ h₀.get? c = none :=
  ⟨fun r => by
    rcases List.mem_append.mp r with r | r
    · exact (F.cellNw (n := x) w1 e).1 r
    · exact (F.cellNw (n := x) w2 e).1 r, (F.cellNw (n := x) w1 e).2⟩
theorem seg_f {g : BG} (hA : AOk A 47) (hi : IntsAre vs script) (X : Top w (strike hp)) (hL0 : (strike hp).IsList sl vs.toArray) (k1 : 1 ≤ k) (k6 : k ≤ 6) (C : Chs chars) (tab : EngTab chars od)
    (F : WkT (strike hp) L (LCs L) h h m cm ((W, listO ys n) :: engNews p e chars big od)) (S : StrsAre ys (WL script chars big k (nW script k))) (m1 : m "first" = some (.int first u)) (m2 : m "engine" = some (.ref e)) (c1 : cm "script" = some (.ref sl)) (c2 : cm "signs" = some (.str (strL (natsOf chars)) u')) (c3 : cm "big" = some (.bool big))
    (m4 : m "letter" = some (.bytes (letA script) u3)) (m5 : m "mask" = some (.bytes (cycle (keyL script) k).toArray u5)) (m6 : m "words" = some (.ref W))
    (next : ∀ h' (g' : BG) t' m' cm' zs n2 D nS, WkT (strike hp) L (LCs L) h' h' m' cm' ((D, listO zs n2) :: nS ++ (W, listO ys n) :: engNews p e chars big od) → Sps script chars big k (nW script k) zs nS → m' "first" = some (.int first u) → m' "engine" = some (.ref e) → cm' "signs" = some (.str (strL (natsOf chars)) u') → cm' "big" = some (.bool big) →
      m' "letter" = some (.bytes (letA script) u3) → m' "mask" = some (.bytes (cycle (keyL script) k).toArray u5) → m' "words" = some (.ref W) → m' "spoiled" = some (.ref D) →
      wpAny (model pg w) A (execs (B322 15) (LEnv L)) Q (fun _ _ => False) ⟨h', g', d, t', os⟩) :
    wpAny (model pg w) A (execs (B322 14) (LEnv L)) Q (fun _ _ => False) ⟨h, g, d, t, os⟩ := by
  have hvl := hi.length
  have hnw := nW_le script k1
  obtain ⟨oS, hoS, rS⟩ := id hL0
  have hslen : nW script k ≤ script.length := Nat.le_trans (nP_le _ k k1) (by rw [letA_size]; omega)
  refine s_cons ?_
  refine lc_exec (by rfl) (by rfl) rfl (by decide) ?_ (by intro _; rfl)
  repeat tb_rel
  refine up hA (x_enumL (F.top X) (F.get (List.mem_cons_self ..)) ?_)
  intro h3 t3 en I Dm
  have ne := Dm.nw _ (List.mem_cons_self ..)
  have nI := Dm.nw _ (List.mem_cons_of_mem _ (List.mem_cons_self ..))
  dsimp only at ne nI
  have ord := Dm.ord
  simp only [List.map_cons, List.map_nil, List.pairwise_cons, List.mem_cons, List.not_mem_nil, or_false, forall_eq_or_imp, forall_eq, gt_iff_lt] at ord
  have heI : en ≠ I := Nat.ne_of_gt ord.1
  clear ord
  have oE := F.ownNew ne.2
  have oI := F.ownNew nI.2
  have oWd := F.own (List.mem_cons_self ..)
  have hW2 := F.get (List.mem_cons_self ..)
  have lI : W ≠ I := fun x => by rw [x, nI.2] at hW2; cases hW2
  have lE : W ≠ en := fun x => by rw [x, ne.2] at hW2; cases hW2
  have hnn : ∀ x ∈ (W, listO ys n) :: engNews p e chars big od, x.1 ∉ [en] ++ [I] := fun x q r => by
    rcases List.mem_append.mp r with r | r
    · exact F.notIn ne.2 x q r
    · exact F.notIn nI.2 x q r
  replace F := (F.kept (keeps_of_mem Dm)).mark
  refine wpAny_pyIter_enum ne.1 ?_
  have W0 := It.enum (w := w) (It.list I W lI ys (nW script k) (by rw [S.1]; simp [WL])) (e := en) (by simp [heI, Ne.symm lE])
  obtain ⟨oscr, hoscr, hdscr⟩ : ∃ o, h3.get? _ = some o ∧ o.data = .cell (cm "script") := F.C.cell "script" _ (by rfl)
  obtain ⟨osig, hosig, hdsig⟩ : ∃ o, h3.get? _ = some o ∧ o.data = .cell (cm "signs") := F.C.cell "signs" _ (by rfl)
  obtain ⟨obig, hobig, hdbig⟩ : ∃ o, h3.get? _ = some o ∧ o.data = .cell (cm "big") := F.C.cell "big" _ (by rfl)
  rw [c1] at hdscr
  rw [c2] at hdsig
  rw [c3] at hdbig
  refine lc_asg (El := fun i y o => ∃ ob, o = some ob ∧ SpO script chars big k i ob) (nw := [(L + 1, oscr), (L + 1 + 1 + 1, osig), (L + 1 + 1 + 1 + 1, obig)]) (lc_src2 _ W0 (hA.less (by omega)) (fun A E Q s st hq => by obtain ⟨⟨old, he⟩, _⟩ := st; exact wpAny_pyIter_enum he hq) ?_ ?_ (by intro _; with_unfolding_all rfl) (by intro _; with_unfolding_all rfl) (by with_unfolding_all rfl) ?_) (by omega) (by decide) rfl F ?_ ?_ ?_ hnn ?_ rfl rfl (by rfl) ?_
  · intro x hx
    simp only [List.mem_cons, List.not_mem_nil, or_false] at hx
    rcases hx with rfl | rfl | rfl
    · exact F.cellNw2 (x := "script") oE oI (by rfl)
    · exact F.cellNw2 (x := "signs") oE oI (by rfl)
    · exact F.cellNw2 (x := "big") oE oI (by rfl)
  · intro a ha
    simp only [List.cons_append, List.nil_append, List.mem_cons, List.not_mem_nil, or_false] at ha
    rcases ha with rfl | rfl
    · exact oE.1
    · exact oI.1
  · intro C2 i v1 v2 h5 t5 m5 hC2 hi2 hv F
    obtain ⟨⟨ui, rfl⟩, hv2⟩ := hv
    have mscr : (L + 1, oscr) ∈ [(L + 1, oscr), (L + 1 + 1 + 1, osig), (L + 1 + 1 + 1 + 1, obig)] := by simp
    have msig : (L + 1 + 1 + 1, osig) ∈ [(L + 1, oscr), (L + 1 + 1 + 1, osig), (L + 1 + 1 + 1 + 1, obig)] := by simp
    have mbig : (L + 1 + 1 + 1 + 1, obig) ∈ [(L + 1, oscr), (L + 1 + 1 + 1, osig), (L + 1 + 1 + 1 + 1, obig)] := by simp
    obtain ⟨uw, ew⟩ := S.2 i (by simpa [WL] using hi2)
    obtain rfl : v2 = .str (strL (wordL chars (wdig script big k i))) uw := by
      rw [Array.getD_eq_getD_getElem?, hv2, Option.getD_some] at ew
      rw [ew]; congr 2; simp [WL, hi2]
    have hlt := lawDig_lt big (hidA script k i)
    have hlen := lawDig_len big (hidA script k i)
    rw [show lawDig big (hidA script k i) = wdig script big k i from rfl] at hlt hlen
    rw [hidA_size] at hlen
    have SP := wspoils script big i k1 k6
    have hne := SP.ne
    have hsl := SP.lt
    rw [hidA_size] at hsl
    rw [show lawDig big (hidA script k i) = wdig script big k i from rfl] at hne hsl
    have hcl : lawCnt k ≤ 100 := by unfold lawCnt; omega
    obtain ⟨us, hus⟩ := ints_at hi i (by omega)
    repeat tb_rel
    refine tl_li (x := .int (script.getD i 0) us) ⟨oS, F.old _ _ hoS, rS⟩ (by omega) (by omega) (by simpa using hus) ?_ (by with_unfolding_all rfl) (by intro _; with_unfolding_all rfl)
    repeat tb_rel
    refine i_div (by decide) (by decide) ?_
    intro _ _
    repeat tb_rel
    refine spoil_ok (j := jj script k i) hlt hne (by omega) (hA.less (by omega)) (F.top X) C (by rw [hlen]; exact (jj_is script k i).1) (by rw [hlen]; exact hsl) ?_
    intro h7 t7 Tp u7 k7 nT hT
    refine ⟨_, _, _, rfl, F.kept k7, _, ⟨_, rfl, u7, rfl⟩, fun ob z => ?_⟩
    cases z
    exact ⟨Tp, rfl, by simp, nT, hT⟩
  · intro a ha
    simp only [List.cons_append, List.nil_append, List.mem_cons, List.not_mem_nil, or_false] at ha
    rcases ha with rfl | rfl | rfl
    · exact ⟨_, ne.1⟩
    · exact ⟨_, nI.1⟩
    · exact ⟨_, F.get (List.mem_cons_self ..)⟩
  · exact ⟨⟨_, ne.1⟩, ⟨_, nI.1, rfl, rfl⟩, ⟨_, F.get (List.mem_cons_self ..), rfl, _, rfl⟩⟩
  · intro a ha
    simp only [List.cons_append, List.nil_append, List.mem_cons, List.not_mem_nil, or_false] at ha
    rcases ha with rfl | rfl
    · exact oE
    · exact oI
  · intro x hx
    simp only [List.mem_cons, List.not_mem_nil, or_false] at hx
    rcases hx with rfl | rfl | rfl
    · exact ⟨hoscr, (F.cellNw2 (x := "script") oE oI (by rfl)).1⟩
    · exact ⟨hosig, (F.cellNw2 (x := "signs") oE oI (by rfl)).1⟩
    · exact ⟨hobig, (F.cellNw2 (x := "big") oE oI (by rfl)).1⟩
  · have F3 := F
    intro D h6 t6 zs nD hD F oD hsz hel
    obtain ⟨n2, hD⟩ := hD
    obtain ⟨nS, hln, hnS⟩ := pick_list (P := fun i (x : Addr × Obj) => zs[i]? = some (.ref x.1) ∧ SpO script chars big k i x.2 ∧ h6.get? x.1 = some x.2 ∧ Own (strike hp) L (LCs L) x.1) (nW script k) fun i hi3 => by
      obtain ⟨o, ⟨ob, rfl, sp⟩, q⟩ := hel i hi3
      obtain ⟨T, e1, nb, nT, hT⟩ := q ob rfl
      refine ⟨(T, ob), ?_, sp, hT, F3.ownNew nT⟩
      have hz : i < zs.size := by omega
      rw [Array.getD_eq_getD_getElem?, Array.getElem?_eq_getElem hz, Option.getD_some] at e1
      rw [Array.getElem?_eq_getElem hz, e1]
    replace F := (F.addL (nS := nS) fun x hx => by
      obtain ⟨i, hi3, rfl⟩ := List.mem_iff_getElem.mp hx
      obtain ⟨y, e1, _, _, a, b⟩ := hnS i (by omega)
      rw [List.getElem?_eq_getElem hi3] at e1
      obtain rfl := Option.some.inj e1
      exact ⟨a, b⟩).ownIn hD oD
    have SPS : Sps script chars big k (nW script k) zs nS := ⟨hsz, hln, fun i hi3 => by
      obtain ⟨y, e1, e2, sp, _, _⟩ := hnS i hi3
      exact ⟨y, e1, e2, sp⟩⟩
    clear F3 hel hnS W0 nD
    repeat ((fail_if_success (with_reducible refine at_cons ?_)); tb_rel)
    refine next _ _ _ _ _ _ _ _ _ F SPS ?_ ?_ ?_ ?_ ?_ ?_ ?_ ?_
    all_goals first | with_unfolding_all assumption | with_unfolding_all rfl
end
end
section
section
variable {w : World} {A : Around} {hp h : Heap} {g : Array GenState} {d : Drawn} {t n n2 : Nat} {os : OsState} {sl L W D : Addr} {vs : List Value} {script : List Int} {first : Int} {m cm : Str → Option Value} {u u' u2 u3 u4 u5 u6 : Tok} {chars : Array UInt8} {t1 : Tok} {p : EngP} {e : Addr} {big : Bool} {od : Obj} {k : Nat} {ys zs : Array Value} {nS news : List (Addr × Obj)}
theorem sps_at (S : Sps script chars big k n zs nS) {i : Nat} {v : Value} (h : zs[i]? = some v) : ∃ x ∈ nS, v = .ref x.1 ∧ SpO script chars big k i x.2 := by
  have hi : i < n := by
    have := (Array.getElem?_eq_some_iff.mp h).1
    rw [S.sz] at this; exact this
  obtain ⟨x, e1, e2, sp⟩ := S.at' i hi
  rw [e2] at h
  exact ⟨x, List.mem_of_getElem? e1, (Option.some.inj h).symm, sp⟩
theorem lc_texts {E : Value → Shared → Prop} {Q : Value → Shared → Prop} {scope : Scope} {p0 p1 p2 p3 pos : Pos} {kt : Nat} {iter : PySem.Expr} (hA : AOk A 47) (hcell : ∀ y ∈ scope.names, y.2 ≠ .cell) (hkind : scope.kind = .function) (hx : ∀ C, (compEnvC scope [] C (LEnv L)).kindOf "dirty" = some .local) (hy : ∀ C, (compEnvC scope [] C (LEnv L)).kindOf "text" = some .local) (hsk : (relabel scope (LEnv L)).kind = .function)
    (F : WkT (strike hp) L (LCs L) h h m cm news) (hS : ∀ x ∈ nS, x ∈ news) (SPS : Sps script chars big k n zs nS) (hn : n ≤ 64) (hD : (D, listO zs n2) ∈ news)
    (hQ : ∀ D2 h' t' ys2, h'.PlainList D2 ys2 → h.get? D2 = none → WkT (strike hp) L (LCs L) h' h' m cm news → StrsAre ys2 (SL script chars big k n) → Q (.ref D2) ⟨h', g, d, t', os⟩) :
    wpAny (model pg w) A (pyIter (.ref D)) (LcQ w A E (LEnv L) scope [] (.Name "text" p0) (.Tuple [.Name "dirty" p1, .Name "text" p2] kt p3) iter pos none Q) E ⟨h, g, d, t, os⟩ := by
  have hl := F.get hD
  refine pyIter_L ⟨_, hl, rfl, _, rfl⟩ ?_
  intro h4 I k4 hI nI
  have oI := F.ownNew nI
  have hne : D ≠ I := fun x => by rw [x, nI] at hl; cases hl
  have hnn := F.notIn nI
  have h0 := F
  replace F := (F.kept k4).mark
  refine lc_val (El := fun i y o => o = none ∧ ∃ u, y = .str (strL (wordL chars (sdig script big k i))) u) (nw := nS) (lc_srcG _ (It.list I D hne zs n SPS.sz) (hA.less (by omega)) (fun A E Q s st hq => wpAny_pyIter_listiter st.1 hq) (fun A E Q i v s p st q => by
    obtain ⟨x, _, rfl, _⟩ := sps_at SPS p
    exact go_listit st.1 q) ?_ ?_ ?_) (by omega) hcell hkind F ?_ ?_ ?_ hnn ?_ ?_
  · intro x hx
    exact ⟨hnn x (hS x hx), (h0.own (a := x.1) (o := x.2) (hS x hx)).1⟩
  · intro a ha
    rw [List.mem_singleton.mp ha]; exact oI.1
  · intro C2 i v h5 t5 m5 hC2 hi2 hv F
    obtain ⟨x, hx1, rfl, ux, hox⟩ := sps_at SPS hv
    have hT := F.get (a := x.1) (o := x.2) hx1
    rw [hox] at hT
    refine asg2 (L := C2) hA.hd F hT (fun h6 t6 F => ?_) rfl hsk (hx C2) (hy C2)
    refine wL F (by with_unfolding_all rfl) ?_ rfl hsk (hy C2) (by decide)
    exact ⟨_, _, _, rfl, F, none, ⟨rfl, _, rfl⟩, fun ob z => by cases z⟩
  · intro a ha
    simp only [List.mem_cons, List.not_mem_nil, or_false] at ha
    rcases ha with rfl | rfl
    · exact ⟨_, hI⟩
    · exact ⟨_, F.get hD⟩
  · exact ⟨⟨_, hI, rfl, rfl⟩, ⟨_, F.get hD, rfl, _, rfl⟩⟩
  · intro a ha
    rw [List.mem_singleton.mp ha]; exact oI
  · intro x hx
    exact ⟨F.get (a := x.1) (o := x.2) (hS x hx), hnn x (hS x hx)⟩
  · intro D2 h6 t6 ys2 nD hD2 F oD hsz hel
    refine hQ D2 _ _ ys2 hD2 ?_ F ⟨by rw [hsz]; simp [SL], fun i hi => ?_⟩
    · cases q : h.get? D2 with
      | none => rfl
      | some o => rw [k4 _ _ q] at nD; cases nD
    · have hi : i < n := by simpa [SL] using hi
      obtain ⟨o, ⟨_, u, e⟩, _⟩ := hel i hi
      refine ⟨u, e.trans ?_⟩
      congr 2
      simp [SL, hi]
theorem wd_word (CR : ∀ i < 64, 45 < (chars.getD i 0).toNat ∧ (chars.getD i 0).toNat < 123) {vs : List Nat} (hne : vs ≠ []) (hlt : ∀ v ∈ vs, v < 64) (hl : vs.length ≤ 100) : Wd (wordL chars vs) := by
  refine ⟨by simpa [wordL] using hne, by rw [wordL_len]; exact hl, fun c hc => ?_⟩
  obtain ⟨v, hv, rfl⟩ := List.mem_map.mp hc
  exact CR v (hlt v hv)
theorem WL_wd (CR : ∀ i < 64, 45 < (chars.getD i 0).toNat ∧ (chars.getD i 0).toNat < 123) (k1 : 1 ≤ k) (k6 : k ≤ 6) : ∀ t ∈ WL script chars big k n, Wd t := by
  intro t ht
  obtain ⟨i, _, rfl⟩ := List.mem_map.mp ht
  have SP := wspoils script big i k1 k6
  refine wd_word CR SP.ne (lawDig_lt _ _) ?_
  rw [show wdig script big k i = lawDig big (hidA script k i) from rfl, lawDig_len, hidA_size]
  unfold lawCnt; omega
theorem SL_wd (CR : ∀ i < 64, 45 < (chars.getD i 0).toNat ∧ (chars.getD i 0).toNat < 123) (k1 : 1 ≤ k) (k6 : k ≤ 6) : ∀ t ∈ SL script chars big k n, Wd t := by
  intro t ht
  obtain ⟨i, _, rfl⟩ := List.mem_map.mp ht
  have SP := wspoils script big i k1 k6
  have hl := SP.len
  rw [hidA_size] at hl
  have hl2 : (sdig script big k i).length = lawCnt k := hl
  refine wd_word CR (fun q => ?_) SP.vlt ?_
  · rw [q] at hl2; simp [lawCnt] at hl2; omega
  · rw [hl2]; unfold lawCnt; omega
theorem sumL_12 {sep : List Nat} {ls : List (List Nat)} (hl : ls.length ≤ 64) (hs : sep.length ≤ 3) (h : ∀ t ∈ ls, Wd t) : sumL ls sep.length ≤ 1000000 := by
  refine Nat.le_trans (sumL_le (B := 100) fun l hl => (h l hl).2.1) ?_
  have : ls.length * (100 + sep.length) ≤ 64 * 103 := Nat.mul_le_mul hl (by omega)
  omega
theorem seg_g {g : BG} {Q : Flow → Shared → Prop} (hA : AOk A 47) (X : Top w (strike hp)) (k1 : 1 ≤ k) (k6 : k ≤ 6) (C : Chs chars) (CR : ∀ i < 64, 45 < (chars.getD i 0).toNat ∧ (chars.getD i 0).toNat < 123)
    (F : WkT (strike hp) L (LCs L) h h m cm ((D, listO zs n2) :: nS ++ (W, listO ys n) :: engNews p e chars big od)) (SPS : Sps script chars big k (nW script k) zs nS) (S : StrsAre ys (WL script chars big k (nW script k))) (m1 : m "first" = some (.int first u)) (m2 : m "engine" = some (.ref e)) (c2 : cm "signs" = some (.str (strL (natsOf chars)) u')) (c3 : cm "big" = some (.bool big))
    (m4 : m "letter" = some (.bytes (letA script) u3)) (m5 : m "mask" = some (.bytes (cycle (keyL script) k).toArray u5)) (m6 : m "words" = some (.ref W)) (m7 : m "spoiled" = some (.ref D))
    (next : ∀ h' (g' : BG) t' m' cm', WkT (strike hp) L (LCs L) h' h' m' cm' ((D, listO zs n2) :: nS ++ (W, listO ys n) :: engNews p e chars big od) → m' "first" = some (.int first u) → m' "engine" = some (.ref e) → cm' "signs" = some (.str (strL (natsOf chars)) u') → cm' "big" = some (.bool big) →
      m' "letter" = some (.bytes (letA script) u3) → m' "mask" = some (.bytes (cycle (keyL script) k).toArray u5) → m' "words" = some (.ref W) → m' "spoiled" = some (.ref D) →
      wpAny (model pg w) A (execs (B322 17) (LEnv L)) Q (fun _ _ => False) ⟨h', g', d, t', os⟩) :
    wpAny (model pg w) A (execs (B322 15) (LEnv L)) Q (fun _ _ => False) ⟨h, g, d, t, os⟩ := by
  have hnw := nW_le script k1
  have hWm : (W, listO ys n) ∈ (D, listO zs n2) :: nS ++ (W, listO ys n) :: engNews p e chars big od := List.mem_append_right _ (List.mem_cons_self ..)
  have hwl : (WL script chars big k (nW script k)).length = nW script k := by simp [WL]
  have hsl : (SL script chars big k (nW script k)).length = nW script k := by simp [SL]
  refine s_join (fun s' => ∃ h', ∃ g' : BG, ∃ t' m' cm', s' = ⟨h', g', d, t', os⟩ ∧ WkT (strike hp) L (LCs L) h' h' m' cm' ((D, listO zs n2) :: nS ++ (W, listO ys n) :: engNews p e chars big od) ∧ m' "first" = some (.int first u) ∧ m' "engine" = some (.ref e) ∧ cm' "signs" = some (.str (strL (natsOf chars)) u') ∧ cm' "big" = some (.bool big) ∧
      m' "letter" = some (.bytes (letA script) u3) ∧ m' "mask" = some (.bytes (cycle (keyL script) k).toArray u5) ∧ m' "words" = some (.ref W) ∧ m' "spoiled" = some (.ref D)) ?_ ?_
  · repeat tb_rel
    refine MethodCall_ ?_ (by rfl)
    repeat tb_rel
    refine GM.join ?_
    repeat tb_rel
    refine r_joinI (sep := [44]) (ls := WL script chars big k (nW script k)) ⟨_, F.get hWm, rfl, _, rfl⟩ S (sumL_12 (by omega) (by simp) (WL_wd CR k1 k6)) ?_
    intro _ _
    repeat tb_rel
    refine spl_ok (spl_words (WL_wd CR k1 k6) (by omega)) (hA.less (by omega)) (F.top X) F.T ?_
    intro h2 t2 D2 y2 k2 T2 nD2 hD2 hs2 he2
    replace F := F.keptG k2 T2
    clear k2 T2
    repeat tb_rel
    refine l_ne_same hA hD2.isList ⟨_, F.get hWm, rfl, _, rfl⟩ ⟨hs2, he2⟩ S ?_
    repeat tb_rel
    exact ⟨rfl, _, _, _, _, _, rfl, F.mark, by with_unfolding_all assumption, by with_unfolding_all assumption, by with_unfolding_all assumption, by with_unfolding_all assumption, by with_unfolding_all assumption, by with_unfolding_all assumption, by with_unfolding_all assumption, by with_unfolding_all assumption⟩
  · rintro s' ⟨h, g, t, m, cm, rfl, F, m1, m2, c2, c3, m4, m5, m6, m7⟩
    refine s_cons ?_
    repeat tb_rel
    refine MethodCall_ ?_ (by rfl)
    repeat tb_rel
    refine GM.join ?_
    repeat tb_rel
    refine lc_eval (cl := []) (by rfl) rfl (by decide) ?_ (by intro _; rfl)
    repeat tb_rel
    have hSn : ∀ x ∈ nS, x ∈ (D, listO zs n2) :: nS ++ (W, listO ys n) :: engNews p e chars big od := fun x q => List.mem_append_left _ (List.mem_cons_of_mem _ q)
    have hDn : (D, listO zs n2) ∈ (D, listO zs n2) :: nS ++ (W, listO ys n) :: engNews p e chars big od := List.mem_cons_self ..
    replace F := F.mark
    refine lc_texts hA (by decide) rfl (by intro _; with_unfolding_all rfl) (by intro _; with_unfolding_all rfl) (by with_unfolding_all rfl) F hSn SPS (by omega) hDn ?_
    intro D2 h2 t2 ys2 hD2 nD2 F S2
    repeat tb_rel
    refine r_joinI (sep := [32, 44, 32]) (ls := SL script chars big k (nW script k)) hD2.isList S2 (sumL_12 (by omega) (by simp) (SL_wd CR k1 k6)) ?_
    intro _ _
    repeat tb_rel
    have hjl := joinL_len (sep := [32, 44, 32]) (by simp) (SL_wd (n := nW script k) (script := script) (big := big) CR k1 k6)
    refine s_add (a := [32]) (by rw [List.length_singleton]; omega) ?_
    intro _ _
    repeat tb_rel
    refine s_add (a := [32] ++ joinL [32, 44, 32] (SL script chars big k (nW script k))) (b := [32, 44, 32]) (by rw [List.length_append]; simp; omega) ?_
    intro _ _
    repeat tb_rel
    refine spl_ok (spl_spoiled (SL_wd CR k1 k6) (by omega)) (hA.less (by omega)) (F.top X) F.T ?_
    intro h3 t3 D3 y3 k3 T3 nD3 hD3 hs3 he3
    have oD3 := F.ownNew nD3
    replace F := F.keptG k3 T3
    obtain ⟨n3, hD3⟩ := hD3
    clear k3 T3
    replace F := F.ownIn hD3 oD3
    refine lc_eval (cl := []) (by rfl) rfl (by decide) ?_ (by intro _; rfl)
    repeat tb_rel
    refine lc_texts hA (by decide) rfl (by intro _; with_unfolding_all rfl) (by intro _; with_unfolding_all rfl) (by with_unfolding_all rfl) F (fun x q => List.mem_cons_of_mem _ (hSn x q)) SPS (by omega) (List.mem_cons_of_mem _ hDn) ?_
    intro D4 h4 t4 ys4 hD4 nD4 F S4
    refine l_ne_same hA ⟨_, F.get (List.mem_cons_self ..), rfl, _, rfl⟩ hD4.isList ⟨hs3, he3⟩ S4 ?_
    replace F := F.fewer fun x q => List.mem_cons_of_mem _ q
    repeat ((fail_if_success (with_reducible refine at_cons ?_)); tb_rel)
    exact next _ _ _ _ _ F.mark (by with_unfolding_all assumption) (by with_unfolding_all assumption) (by with_unfolding_all assumption) (by with_unfolding_all assumption) (by with_unfolding_all assumption) (by with_unfolding_all assumption) (by with_unfolding_all assumption) (by with_unfolding_all assumption)
end
end
section
local macro_rules | `(tactic| tb_rel) => `(tactic| with_reducible refine e_bytes ?_)
section
variable {w : World} {A : Around} {hp h : Heap} {g : Array GenState} {d : Drawn} {t n n2 : Nat} {os : OsState} {sl L W D : Addr} {vs : List Value} {script : List Int} {first : Int} {m cm : Str → Option Value} {u u' u2 u3 u4 u5 u6 : Tok} {chars : Array UInt8} {t1 : Tok} {p : EngP} {e : Addr} {big : Bool} {od : Obj} {k : Nat} {ys zs : Array Value} {nS news : List (Addr × Obj)} {M : Model} {h₀ hz : Heap} {cs : List (Str × Addr)} {env : Env} {E : Value → Shared → Prop}
theorem tasgN {x y z : Str} {px py pz pos pos2 : Pos} {kt kt2 : Nat} {T T2 : Addr} {a b c : Value} {Q : Unit → Shared → Prop}
    (hh : A.handled = none) (F : WkT h₀ L cs hz h m cm news) (hT : IsPair h T a (.ref T2)) (hT2 : IsPair h T2 b c) (nL2 : Own h₀ L cs T2)
    (q : ∀ h' t', WkT h₀ L cs hz h' (fun n => if n = z then some c else if n = y then some b else m n) (fun n => if n = x then some a else cm n) news → Q () ⟨h', g, d, t', os⟩)
    (hL : env.locals = L) (hE : env.cells = cs) (hc : (env.cells.lookup x).isSome = true) (hk : env.scope.kind = .function) (hx : env.kindOf x = some .cell) (hy : env.kindOf y = some .local) (hz' : env.kindOf z = some .local) :
    wpAny (model pg w) A (assign (.Tuple [.Name x px, .Tuple [.Name y py, .Name z pz] kt2 pos2] kt pos) env (.ref T)) Q E ⟨h, g, d, t, os⟩ := by
  refine wpAny_assign_Tuple (items := #[a, .ref T2]) hh ⟨_, hT, rfl, _, rfl⟩ rfl rfl fun h₁ e₁ => ?_
  have F₁ : WkT h₀ L cs hz h₁ m cm news := F.kept fun c o e => e₁ c o (Nat.ne_of_lt (Heap.lt_size e)) e
  have hT2 : IsPair h₁ T2 b c := e₁ _ _ (Nat.ne_of_lt (Heap.lt_size hT2)) hT2
  replace F₁ := F₁.ownIn hT2 nL2
  clear hT2 e₁
  refine assignInOrder_cons ?_
  refine wpAny_assign_Name (tstC F₁ (fun h₂ t₂ F₂ => ?_) hE hc hk hx)
  refine assignInOrder_cons ?_
  show wpAny _ _ (assign (.Tuple [.Name y py, .Name z pz] kt2 pos2) env (.ref T2)) _ _ _
  refine tasg2 hh F₂ (F₂.get (List.mem_cons_self ..)) (fun h₃ t₃ F₃ => ?_) hL hk hy hz'
  exact assignInOrder_nil (q _ _ (F₃.fewer fun x q => List.mem_cons_of_mem _ q))
end
theorem spells_word (C : Chs chars) {vs : List Nat} (hvs : ∀ v ∈ vs, v < 64) : Spells chars (wordB chars vs) vs := by
  refine ⟨(wordB_size chars vs).symm, fun j hj => ?_⟩
  rw [wordB_size] at hj
  refine ⟨hvs _ (by rw [List.getD_eq_getElem?_getD, List.getElem?_eq_getElem hj]; exact List.getElem_mem hj), ?_⟩
  unfold wordB
  rw [List.getElem?_toArray, List.getElem?_map, List.getElem?_eq_getElem hj, List.getD_eq_getElem?_getD, List.getElem?_eq_getElem hj]; rfl
theorem spoilL_last (big : Bool) (j : Nat) (vs : List Nat) : (spoilL big j vs).getLastD 0 = vs.getLastD 0 + spoA big (freeN vs.length) j := by
  unfold spoilL; simp
section
variable {script : List Int} {big : Bool} {k : Nat}
theorem wdig_len (script : List Int) (big : Bool) (k i : Nat) : (wdig script big k i).length = lawCnt k := by unfold wdig; rw [lawDig_len, hidA_size]
theorem wdig_lt (script : List Int) (big : Bool) (k i : Nat) : ∀ v ∈ wdig script big k i, v < 64 := lawDig_lt _ _
/-- what is asked of a spoiled word -/
structure SDok (script : List Int) (big : Bool) (k i : Nat) : Prop where
  lt : ∀ v ∈ sdig script big k i, v < 64
  ne : sdig script big k i ≠ []
  len : (sdig script big k i).length = lawCnt k
  one : (sdig script big k i).length % 4 ≠ 1
  flag : (!pzB (padBx big (sdig script big k i).length) ((sdig script big k i).getLastD 0)) = (jj script k i != 0)
  fix : fixL (padBx big (sdig script big k i).length) (sdig script big k i) = wdig script big k i
  dec : decArr big (sdig script big k i) (lawCnt k) = hidA script k i
  dlt : ∀ j < decN (lawCnt k), decF big (sdig script big k i) j < 256
theorem sdok (script : List Int) (big : Bool) {k : Nat} (i : Nat) (k1 : 1 ≤ k) (k6 : k ≤ 6) : SDok script big k i := by
  have SP := wspoils script big i k1 k6
  obtain ⟨a1, a2, a3, a4, a5, a6, a7, a8, a9⟩ := SP
  rw [hidA_size] at a1 a2 a3 a4 a5 a7 a9
  have hl : (sdig script big k i).length = lawCnt k := a7
  refine ⟨a8, fun q => ?_, hl, by rw [hl]; exact a9, ?_, by rw [hl]; exact a3, a4, a5⟩
  · rw [q] at hl; simp [lawCnt] at hl; omega
  · unfold sdig at hl ⊢
    rw [spoilL_last, hl, wdig_len]
    unfold wdig
    rw [a2]; rfl
end
section
variable {w : World} {A : Around} {hp h : Heap} {g : Array GenState} {d : Drawn} {t n n2 : Nat} {os : OsState} {sl L W D : Addr} {vs : List Value} {script : List Int} {first : Int} {m cm : Str → Option Value} {u u' u2 u3 u4 u5 u6 : Tok} {chars : Array UInt8} {t1 : Tok} {p : EngP} {e : Addr} {big : Bool} {od : Obj} {k : Nat} {ys zs : Array Value} {nS news : List (Addr × Obj)}
abbrev LNews (D : Addr) (zs : Array Value) (n2 : Nat) (nS : List (Addr × Obj)) (W : Addr) (ys : Array Value) (n : Nat) (p : EngP) (e : Addr) (chars : Array UInt8) (big : Bool) (od : Obj) : List (Addr × Obj) := (D, listO zs n2) :: nS ++ (W, listO ys n) :: engNews p e chars big od
/-- where a turn stands between its statements -/
def TJ (hp : Heap) (L : Addr) (d : Drawn) (os : OsState) (news : List (Addr × Obj)) (nm : (Str → Option Value) → (Str → Option Value) → Prop) (s : Shared) : Prop := ∃ h, ∃ g : BG, ∃ t m cm, s = ⟨h, g, d, t, os⟩ ∧ WkT (strike hp) L (LCs L) h h m cm news ∧ nm m cm
theorem strs_at {ys : Array Value} {ls : List (List Nat)} (S : StrsAre ys ls) {i : Nat} (h : i < ls.length) : ∃ u, ys[i]? = some (.str (strL (ls.getD i [])) u) := by
  obtain ⟨u, e⟩ := S.2 i h
  have hi : i < ys.size := by rw [S.1]; exact h
  rw [Array.getD_eq_getD_getElem?, Array.getElem?_eq_getElem hi, Option.getD_some] at e
  exact ⟨u, by rw [Array.getElem?_eq_getElem hi, e]⟩
theorem seg_h {g : BG} {Q : Flow → Shared → Prop} (hA : AOk A 47) (X : Top w (strike hp)) (k1 : 1 ≤ k) (k6 : k ≤ 6) (C : Chs chars) (tab : EngTab chars od)
    (F : WkT (strike hp) L (LCs L) h h m cm (LNews D zs n2 nS W ys n p e chars big od)) (SPS : Sps script chars big k (nW script k) zs nS) (S : StrsAre ys (WL script chars big k (nW script k))) (m1 : m "first" = some (.int first u)) (m2 : m "engine" = some (.ref e)) (c2 : cm "signs" = some (.str (strL (natsOf chars)) u')) (c3 : cm "big" = some (.bool big))
    (m4 : m "letter" = some (.bytes (letA script) u3)) (m5 : m "mask" = some (.bytes (cycle (keyL script) k).toArray u5)) (m6 : m "words" = some (.ref W)) (m7 : m "spoiled" = some (.ref D))
    (next : ∀ h' (g' : BG) t' m' cm' ur, WkT (strike hp) L (LCs L) h' h' m' cm' (engNews p e chars big od) → m' "first" = some (.int first u) → m' "engine" = some (.ref e) → cm' "signs" = some (.str (strL (natsOf chars)) u') → cm' "big" = some (.bool big) →
      m' "letter" = some (.bytes (letA script) u3) → m' "read" = some (.bytes (readL (letA script).toList k (nW script k)).toArray ur) →
      wpAny (model pg w) A (execs (B322 19) (LEnv L)) Q (fun _ _ => False) ⟨h', g', d, t', os⟩) :
    wpAny (model pg w) A (execs (B322 17) (LEnv L)) Q (fun _ _ => False) ⟨h, g, d, t, os⟩ := by
  have hnw := nW_le script k1
  have hDm : (D, listO zs n2) ∈ LNews D zs n2 nS W ys n p e chars big od := List.mem_cons_self ..
  have hWm : (W, listO ys n) ∈ LNews D zs n2 nS W ys n p e chars big od := List.mem_append_right _ (List.mem_cons_self ..)
  have hSm : ∀ x ∈ nS, x ∈ LNews D zs n2 nS W ys n p e chars big od := fun x q => List.mem_append_left _ (List.mem_cons_of_mem _ q)
  have hEm : ∀ x ∈ engNews p e chars big od, x ∈ LNews D zs n2 nS W ys n p e chars big od := fun x q => List.mem_append_right _ (List.mem_cons_of_mem _ q)
  have hcl : lawCnt k ≤ 100 := by unfold lawCnt; omega
  refine s_cons ?_
  repeat ((fail_if_success (with_reducible refine at_cons ?_)); tb_rel)
  refine s_join (fun s' => ∃ h', ∃ g' : BG, ∃ t' m' cm' ur, s' = ⟨h', g', d, t', os⟩ ∧ WkT (strike hp) L (LCs L) h' h' m' cm' (engNews p e chars big od) ∧ m' "first" = some (.int first u) ∧ m' "engine" = some (.ref e) ∧ cm' "signs" = some (.str (strL (natsOf chars)) u') ∧ cm' "big" = some (.bool big) ∧
      m' "letter" = some (.bytes (letA script) u3) ∧ m' "read" = some (.bytes (readL (letA script).toList k (nW script k)).toArray ur)) ?_ ?_
  · repeat tb_rel
    refine up hA (x_enumL (F.top X) (F.get hDm) ?_)
    intro h3 t3 en I Dm
    have ne := Dm.nw _ (List.mem_cons_self ..)
    have nI := Dm.nw _ (List.mem_cons_of_mem _ (List.mem_cons_self ..))
    dsimp only at ne nI
    have ord := Dm.ord
    simp only [List.map_cons, List.map_nil, List.pairwise_cons, List.mem_cons, List.not_mem_nil, or_false, forall_eq_or_imp, forall_eq, gt_iff_lt] at ord
    have heI : en ≠ I := Nat.ne_of_gt ord.1
    clear ord
    have oE := F.ownNew ne.2
    have oI := F.ownNew nI.2
    have oD := F.own hDm
    have lI : D ≠ I := fun x => F.notIn nI.2 _ hDm (List.mem_singleton.mpr x)
    have lE : D ≠ en := fun x => F.notIn ne.2 _ hDm (List.mem_singleton.mpr x)
    have hnn : ∀ x ∈ LNews D zs n2 nS W ys n p e chars big od, x.1 ∉ [en] ++ [I] := fun x q r => by
      rcases List.mem_append.mp r with r | r
      · exact F.notIn ne.2 x q r
      · exact F.notIn nI.2 x q r
    have W0 := It.enum (w := w) (It.list I D lI zs (nW script k) SPS.sz) (e := en) (by simp [heI, Ne.symm lE])
    replace F := F.kept (keeps_of_mem Dm)
    have oW : ∀ a ∈ [en] ++ [I], Own (strike hp) L (LCs L) a := by
      intro a ha
      simp only [List.cons_append, List.nil_append, List.mem_cons, List.not_mem_nil, or_false] at ha
      rcases ha with rfl | rfl
      · exact oE
      · exact oI
    have oF : ∀ a ∈ [en, I, D], Own (strike hp) L (LCs L) a := by
      intro a ha
      simp only [List.mem_cons, List.not_mem_nil, or_false] at ha
      rcases ha with rfl | rfl | rfl
      · exact oE
      · exact oI
      · exact oD
    clear Dm
    refine wpAny_pyIter_enum ne.1 ?_
    refine for_T W0 (hA.less (by omega)) (fun i s => ∃ h, ∃ g : BG, ∃ t m cm ur, s = ⟨h, g, d, t, os⟩ ∧ WkT (strike hp) L (LCs L) h h m cm (LNews D zs n2 nS W ys n p e chars big od) ∧ ((∃ old, IsEnum h en I (i : Int) old) ∧ h.IsListIter I D i ∧ h.IsList D zs) ∧ m "first" = some (.int first u) ∧ m "engine" = some (.ref e) ∧ cm "signs" = some (.str (strL (natsOf chars)) u') ∧ cm "big" = some (.bool big) ∧
      m "letter" = some (.bytes (letA script) u3) ∧ m "mask" = some (.bytes (cycle (keyL script) k).toArray u5) ∧ m "words" = some (.ref W) ∧ m "read" = some (.bytes (readL (letA script).toList k i).toArray ur)) ?_ ?_ ?_ ?_
    · rintro i s ⟨h, g, t, m, cm, ur, rfl, F, st, _⟩
      exact st
    · rintro i s s₁ T x y hi8 ⟨h, g, t, m, cm, ur, rfl, F, st, m1, m2, c2, c3, m4, m5, m6, m8⟩ ⟨⟨ux, rfl⟩, hy⟩ hT hf st₁ mv
      obtain ⟨h4, t4, rfl⟩ := mv.shaped
      obtain ⟨xx, hxm, rfl, uT, hxo⟩ := sps_at SPS hy
      obtain ⟨T2, o2⟩ := xx
      dsimp only at hxo hxm hT
      subst hxo
      replace F : WkT (strike hp) L (LCs L) h4 h4 m cm (LNews D zs n2 nS W ys n p e chars big od) := F.mv mv oW hnn
      obtain ⟨nf, enf, FN⟩ := F.ownL (fp := [en, I, D]) (fun b hb => by
        simp only [List.mem_cons, List.not_mem_nil, or_false] at hb
        obtain ⟨⟨old, a1⟩, ⟨o2, a2, _⟩, ⟨o3, a3, _⟩⟩ := st₁
        rcases hb with rfl | rfl | rfl
        · exact ⟨_, a1⟩
        · exact ⟨_, a2⟩
        · exact ⟨_, a3⟩) oF
      replace F := FN
      have hE : ∀ x ∈ engNews p e chars big od, x ∈ nf ++ LNews D zs n2 nS W ys n p e chars big od := fun x q => List.mem_append_right _ (hEm x q)
      have hWn : (W, listO ys n) ∈ nf ++ LNews D zs n2 nS W ys n p e chars big od := List.mem_append_right _ hWm
      refine tasgN hA.hd F hT (F.get (List.mem_append_right _ (hSm _ hxm))) (F.own (List.mem_append_right _ (hSm _ hxm))) (fun h5 t5 F5 => ?_) rfl rfl rfl rfl rfl rfl rfl
      clear F; rename _ => F
      have SD := sdok script big i k1 k6
      obtain ⟨uw, hw⟩ := strs_at S (i := i) (by simpa [WL] using hi8)
      rw [show (WL script chars big k (nW script k)).getD i [] = wordL chars (wdig script big k i) by simp [WL, hi8]] at hw
      repeat tb_rel
      refine MethodCall_ ?_ (by rfl)
      repeat tb_rel
      refine gm_fn (f := 142) (F.top X) (eng_of F tab C.size hE).out (by kernel_rfl) (by kernel_rfl) (by kernel_rfl) ?_
      repeat tb_rel
      refine MethodCall_ ?_ (by rfl)
      repeat tb_rel
      refine gm_encode ?_
      repeat tb_rel
      refine enc_w C SD.lt (by rw [SD.len]; omega) ?_
      intro _ _
      repeat tb_rel
      refine dec_ok (vs := sdig script big k i) (hA.less (by omega)) (F.top X) (eng_of F tab C.size hE).out (by rw [wordB_size, SD.len]; omega) (spells_word C SD.lt) (by rw [wordB_size]; exact SD.one) (by rw [wordB_size, SD.len]; exact SD.dlt) ?_
      intro hd gd td ud kd
      replace F := F.kept kd
      clear kd
      rw [wordB_size, SD.len, SD.dec]
      repeat tb_rel
      refine MethodCall_ ?_ (by rfl)
      repeat tb_rel
      refine gm_fn (f := 121) (F.top X) (eng_of F tab C.size hE).out (by kernel_rfl) (by kernel_rfl) (by kernel_rfl) ?_
      repeat tb_rel
      refine enc_ok (hA.less (by omega)) (F.top X) (eng_of F tab C.size hE).out (by rw [hidA_size]; omega) ?_
      intro hE' gE tE uE kE
      replace F := F.kept kE
      clear kE
      rw [encArr_law chars big _ (by rw [hidA_size]; omega), show lawDig big (hidA script k i) = wdig script big k i from rfl]
      repeat tb_rel
      refine MethodCall_ ?_ (by rfl)
      repeat tb_rel
      refine tl_li (x := .str (strL (wordL chars (wdig script big k i))) uw) ⟨_, F.get (by first | exact hWn | exact List.mem_cons_of_mem _ hWn), rfl, _, rfl⟩ (by omega) (by omega) (by simpa using hw) ?_ (by with_unfolding_all rfl) (by intro _; with_unfolding_all rfl)
      refine gm_encode ?_
      repeat tb_rel
      refine enc_w C (wdig_lt script big k i) (by rw [wdig_len]; omega) ?_
      intro _ _
      repeat tb_rel
      refine b_ne_same rfl ?_
      repeat ((fail_if_success (with_reducible refine at_cons ?_)); tb_rel)
      refine s_join (TJ hp L d os (nf ++ LNews D zs n2 nS W ys n p e chars big od) (fun m cm => m "first" = some (.int first u) ∧ m "engine" = some (.ref e) ∧ cm "signs" = some (.str (strL (natsOf chars)) u') ∧ cm "big" = some (.bool big) ∧ m "letter" = some (.bytes (letA script) u3) ∧ m "mask" = some (.bytes (cycle (keyL script) k).toArray u5) ∧ m "words" = some (.ref W) ∧ m "read" = some (.bytes (readL (letA script).toList k i).toArray ur) ∧
        m "hidden" = some (.bytes (hidA script k i) ud) ∧ m "clean" = some (.bytes (wordB chars (wdig script big k i)) uE) ∧ m "dirty" = some (.bool (jj script k i != 0)) ∧ m "text" = some (.str (strL (wordL chars (sdig script big k i))) uT) ∧ cm "i" = some (.int (i : Int) ux))) ?_ ?_
      · repeat tb_rel
        by_cases hi4 : i < 4
        · refine and_t ?_
          repeat tb_rel
          refine ⟨decide_eq_true (by omega), and_f ?_⟩
          repeat tb_rel
          refine MethodCall_ ?_ (by rfl)
          repeat tb_rel
          refine gm_fn (f := 186) (F.top X) (eng_of F tab C.size hE).out (by kernel_rfl) (by kernel_rfl) (by kernel_rfl) ?_
          repeat tb_rel
          refine chk_s SD.lt SD.ne (by rw [SD.len]; omega) SD.one (hA.less (by omega)) (F.top X) F.T (eng_of F tab C.size hE) C ?_
          intro hc gc tc Tp uc kc Tc nTp hTp
          have oTp := F.ownNew nTp
          replace F := (F.keptG kc Tc).ownIn hTp oTp
          clear hTp nTp oTp kc Tc
          rw [SD.flag, SD.fix] at F
          repeat tb_rel
          refine e_tup ?_
          repeat tb_rel
          refine tl_li (x := .str (strL (wordL chars (wdig script big k i))) uw) ⟨_, F.get (by first | exact hWn | exact List.mem_cons_of_mem _ hWn), rfl, _, rfl⟩ (by omega) (by omega) (by simpa using hw) ?_ (by with_unfolding_all rfl) (by intro _; with_unfolding_all rfl)
          repeat tb_rel
          refine tup_q (by simp) ?_
          intro ht T3 kt hT3 nT3
          replace F := F.kept kt
          refine t_ne_same hA (F.get (List.mem_cons_self ..)) hT3 (by simpa using SeqAt.EqAt.bool_bool (A := A.in1) (s := _) (jj script k i != 0) (jj script k i != 0)) (by simpa using SeqAt.EqAt.str_str (A := A.in1) (s := _) (strL (wordL chars (wdig script big k i))) uc (strL (wordL chars (wdig script big k i))) uw) ?_
          clear kt hT3 nT3
          repeat tb_rel
          refine ⟨rfl, ?_⟩
          repeat tb_rel
          refine ⟨rfl, _, _, _, _, _, rfl, (F.fewer fun x q => List.mem_cons_of_mem _ q).mark, ?_⟩
          refine ⟨?_, ?_, ?_, ?_, ?_, ?_, ?_, ?_, ?_, ?_, ?_, ?_, ?_⟩ <;> first | with_unfolding_all assumption | with_unfolding_all rfl
        · refine and_f ?_
          repeat tb_rel
          refine ⟨decide_eq_false (by omega), ?_⟩
          repeat tb_rel
          refine ⟨rfl, _, _, _, _, _, rfl, F.mark, ?_⟩
          refine ⟨?_, ?_, ?_, ?_, ?_, ?_, ?_, ?_, ?_, ?_, ?_, ?_, ?_⟩ <;> first | with_unfolding_all assumption | with_unfolding_all rfl
      rintro s' ⟨h, g, t, m, cm, rfl, F, m1, m2, c2, c3, m4, m5, m6, m8, m9, m10, m11, m12, c6⟩
      refine s_join (TJ hp L d os (nf ++ LNews D zs n2 nS W ys n p e chars big od) (fun m cm => m "first" = some (.int first u) ∧ m "engine" = some (.ref e) ∧ cm "signs" = some (.str (strL (natsOf chars)) u') ∧ cm "big" = some (.bool big) ∧ m "letter" = some (.bytes (letA script) u3) ∧ m "mask" = some (.bytes (cycle (keyL script) k).toArray u5) ∧ m "words" = some (.ref W) ∧ m "read" = some (.bytes (readL (letA script).toList k i).toArray ur) ∧
        m "hidden" = some (.bytes (hidA script k i) ud) ∧ m "clean" = some (.bytes (wordB chars (wdig script big k i)) uE) ∧ m "dirty" = some (.bool (jj script k i != 0)) ∧ m "text" = some (.str (strL (wordL chars (sdig script big k i))) uT) ∧ cm "i" = some (.int (i : Int) ux))) ?_ ?_
      · repeat tb_rel
        by_cases hi4 : i < 4
        · refine and_t ?_
          repeat tb_rel
          refine ⟨decide_eq_true (by omega), and_f ?_⟩
          repeat tb_rel
          refine MethodCall_ ?_ (by rfl)
          repeat tb_rel
          refine gm_fn (f := 186) (F.top X) (eng_of F tab C.size hE).out (by kernel_rfl) (by kernel_rfl) (by kernel_rfl) ?_
          repeat tb_rel
          refine MethodCall_ ?_ (by rfl)
          repeat tb_rel
          refine gm_encode ?_
          repeat tb_rel
          refine enc_w C SD.lt (by rw [SD.len]; omega) ?_
          intro _ _
          repeat tb_rel
          refine chk_b SD.lt SD.ne (by rw [SD.len]; omega) SD.one (hA.less (by omega)) (F.top X) F.T (eng_of F tab C.size hE) C ?_
          intro hc gc tc Tp uc kc Tc nTp hTp
          have oTp := F.ownNew nTp
          replace F := (F.keptG kc Tc).ownIn hTp oTp
          clear hTp nTp oTp kc Tc
          rw [SD.flag, SD.fix] at F
          repeat tb_rel
          refine e_tup ?_
          repeat tb_rel
          refine tup_q (by simp) ?_
          intro ht T3 kt hT3 nT3
          replace F := F.kept kt
          refine t_ne_same hA (F.get (List.mem_cons_self ..)) hT3 (by simpa using SeqAt.EqAt.bool_bool (A := A.in1) (s := _) (jj script k i != 0) (jj script k i != 0)) (by simpa using eq_at_bytes (A := A.in1) (s := _) (wordB chars (wdig script big k i)) uc (wordB chars (wdig script big k i)) uE) ?_
          clear kt hT3 nT3
          repeat tb_rel
          refine ⟨rfl, ?_⟩
          repeat tb_rel
          refine ⟨rfl, _, _, _, _, _, rfl, (F.fewer fun x q => List.mem_cons_of_mem _ q).mark, ?_⟩
          refine ⟨?_, ?_, ?_, ?_, ?_, ?_, ?_, ?_, ?_, ?_, ?_, ?_, ?_⟩ <;> first | with_unfolding_all assumption | with_unfolding_all rfl
        · refine and_f ?_
          repeat tb_rel
          refine ⟨decide_eq_false (by omega), ?_⟩
          repeat tb_rel
          refine ⟨rfl, _, _, _, _, _, rfl, F.mark, ?_⟩
          refine ⟨?_, ?_, ?_, ?_, ?_, ?_, ?_, ?_, ?_, ?_, ?_, ?_, ?_⟩ <;> first | with_unfolding_all assumption | with_unfolding_all rfl
      rintro s' ⟨h, g, t, m, cm, rfl, F, m1, m2, c2, c3, m4, m5, m6, m8, m9, m10, m11, m12, c6⟩
      repeat tb_rel
      refine xor_ok (hA.less (by omega)) (F.top X) (by rw [hidA_size]; simp [cycle_len]) (by rw [hidA_size]; omega) ?_
      intro hx tx ux2 kx
      replace F := F.kept kx
      clear kx
      rw [show (List.zipWith (fun x1 x2 => x1 ^^^ x2) (hidA script k i).toList (cycle (keyL script) k).toArray.toList).toArray = (piece (letA script).toList k i).toArray by rw [← xor_back (letA script).toList (keyL script) k i]; rfl]
      repeat tb_rel
      have hki : k * i ≤ 72 := Nat.mul_le_mul k6 (by omega : i ≤ 12)
      refine b_add (by rw [List.size_toArray, List.size_toArray, readL_len, piece_len]; omega) ?_
      intro uN _
      rw [show (readL (letA script).toList k i).toArray ++ (piece (letA script).toList k i).toArray = (readL (letA script).toList k (i + 1)).toArray by rw [readL_succ]; simp]
      repeat tb_rel
      refine tq_next ⟨_, _, _, _, _, uN, rfl, (F.fewer fun x q => List.mem_append_right _ q).mark, W0.frame _ ⟨h4, g, d, t4, os⟩ ⟨_, g, d, t4, os⟩ st₁ (fun b hb => FN.held (nf := nf) F (fun x q => List.mem_append_left _ q) b (by rw [enf]; simpa using hb)) (fun _ _ => rfl), ?_⟩
      refine ⟨?_, ?_, ?_, ?_, ?_, ?_, ?_, ?_⟩ <;> first | with_unfolding_all assumption | with_unfolding_all rfl
    · rintro s s₁ ⟨h, g, t, m, cm, ur, rfl, F, st, m1, m2, c2, c3, m4, m5, m6, m8⟩ mv
      obtain ⟨h4, t4, rfl⟩ := mv.shaped
      exact ⟨rfl, _, _, _, _, _, _, rfl, (F.mv mv oW hnn).fewer hEm, m1, m2, c2, c3, m4, m8⟩
    · refine ⟨_, _, _, _, _, t, rfl, F.mark, ⟨⟨_, ne.1⟩, ⟨_, nI.1, rfl, rfl⟩, ⟨_, F.get hDm, rfl, _, rfl⟩⟩, ?_, ?_, ?_, ?_, ?_, ?_, ?_, ?_⟩
      all_goals first | with_unfolding_all assumption | with_unfolding_all rfl
  · rintro s' ⟨h, g, t, m, cm, ur, rfl, F, m1, m2, c2, c3, m4, m8⟩
    exact next _ _ _ _ _ _ F m1 m2 c2 c3 m4 m8
end
end
section
local macro_rules | `(tactic| tb_rel) => `(tactic| with_reducible refine e_bytes ?_)
theorem cut_to {l : List UInt8} {a : Nat} (h : a ≤ l.length) : cutL l none (some (a : Int)) = l.take a := by
  unfold cutL clipAt
  simp only [Option.elim, List.drop_zero, Nat.sub_zero]
  congr 1
  rw [if_neg (by omega)]; omega
theorem cut_from {l : List UInt8} {a : Nat} (h : a ≤ l.length) : cutL l (some (a : Int)) none = l.drop a := by
  unfold cutL clipAt
  simp only [Option.elim]
  rw [if_neg (by omega)]
  rw [show (max 0 (min (a : Int) (l.length : Int))).toNat = a by omega]
  exact List.take_of_length_le (by rw [List.length_drop]; omega)
theorem xor_ne (a s : Nat) : a ^^^ 2 ^ s ≠ a := by
  intro h
  have h2 : a ^^^ (a ^^^ 2 ^ s) = a ^^^ a := congrArg (a ^^^ ·) h
  rw [← Nat.xor_assoc, Nat.xor_self, Nat.zero_xor] at h2
  have := Nat.two_pow_pos s
  omega
theorem flip_ne {l : List UInt8} {a x : Nat} (h : a < l.length) (hx : x < 256) (hne : x ≠ (l.getD a 0).toNat) : l.take a ++ [x.toUInt8] ++ l.drop (a + 1) ≠ l := by
  intro q
  have e : (l.take a ++ [x.toUInt8] ++ l.drop (a + 1))[a]? = l[a]? := by rw [q]
  rw [List.append_assoc, List.getElem?_append_right (by rw [List.length_take]; omega), List.length_take, show a - min a l.length = 0 by omega] at e
  rw [List.getElem?_eq_getElem h] at e
  simp only [List.cons_append, List.nil_append, List.getElem?_cons_zero, Option.some.injEq] at e
  refine hne ?_
  rw [List.getD_eq_getElem?_getD, List.getElem?_eq_getElem h, Option.getD_some, ← e]
  show x = (UInt8.ofNat x).toNat
  rw [UInt8.toNat_ofNat']; omega
section
variable {w : World} {A : Around} {hp h : Heap} {g : Array GenState} {d : Drawn} {t n n2 : Nat} {os : OsState} {sl L W D : Addr} {vs : List Value} {script : List Int} {first : Int} {m cm : Str → Option Value} {u u' u2 u3 u4 u5 u6 ur : Tok} {chars : Array UInt8} {t1 : Tok} {p : EngP} {e : Addr} {big : Bool} {od : Obj} {k : Nat} {ys zs : Array Value} {nS news : List (Addr × Obj)}
theorem seg_i {g : BG} {Q : Flow → Shared → Prop} (hA : AOk A 47) (X : Top w (strike hp)) (k1 : 1 ≤ k) (k6 : k ≤ 6)
    (F : WkT (strike hp) L (LCs L) h h m cm (engNews p e chars big od)) (m1 : m "first" = some (.int first u)) (m2 : m "engine" = some (.ref e)) (c2 : cm "signs" = some (.str (strL (natsOf chars)) u')) (c3 : cm "big" = some (.bool big))
    (m4 : m "letter" = some (.bytes (letA script) u3)) (m8 : m "read" = some (.bytes (readL (letA script).toList k (nW script k)).toArray ur))
    (next : ∀ h' (g' : BG) t' m' cm', WkT (strike hp) L (LCs L) h' h' m' cm' (engNews p e chars big od) → m' "first" = some (.int first u) → m' "engine" = some (.ref e) → cm' "signs" = some (.str (strL (natsOf chars)) u') → cm' "big" = some (.bool big) →
      m' "letter" = some (.bytes (letA script) u3) →
      wpAny (model pg w) A (execs (B322 22) (LEnv L)) Q (fun _ _ => False) ⟨h', g', d, t', os⟩) :
    wpAny (model pg w) A (execs (B322 19) (LEnv L)) Q (fun _ _ => False) ⟨h, g, d, t, os⟩ := by
  have hnw := nW_le script k1
  have hll := letA_le script
  have hcov : (letA script).size ≤ k * nW script k := nP_cover _ _ k1
  have hkn : k * nW script k ≤ 72 := Nat.mul_le_mul k6 hnw
  refine s_cons ?_
  repeat tb_rel
  refine up hA (x_len_bytes (F.top X) (by omega) ?_)
  lcg_src
  repeat tb_rel
  refine pad_ok (hA.less (by omega)) (F.top X) (by rw [List.size_toArray, readL_len]; omega) (by omega) ?_
  lcg_src
  rw [show (padTo (readL (letA script).toList k (nW script k)).toArray.toList (letA script).size).toArray = letA script by
    have := readL_all (letA script).toList k (nW script k) (by rw [Array.length_toList]; exact hcov)
    rw [Array.length_toList] at this
    show (padTo (readL (letA script).toList k (nW script k)) (letA script).size).toArray = _
    rw [this, Array.toArray_toList]]
  repeat ((fail_if_success (with_reducible refine at_cons ?_)); tb_rel)
  refine s_join (TJ hp L d os (engNews p e chars big od) (fun m cm => m "first" = some (.int first u) ∧ m "engine" = some (.ref e) ∧ cm "signs" = some (.str (strL (natsOf chars)) u') ∧ cm "big" = some (.bool big) ∧ m "letter" = some (.bytes (letA script) u3))) ?_ ?_
  · repeat tb_rel
    refine or_f ?_
    repeat tb_rel
    refine b_ne_same rfl ?_
    repeat tb_rel
    refine ⟨rfl, or_f ?_⟩
    repeat tb_rel
    refine consteq_ok (hA.less (by omega)) (F.top X) (by omega) (by omega) ?_
    lcg_off
    repeat tb_rel
    refine ⟨by simp, or_f ?_⟩
    repeat tb_rel
    refine b_add (by simp; omega) ?_
    intro _ _
    repeat tb_rel
    refine consteq_ok (hA.less (by omega)) (F.top X) (by simp; omega) (by omega) ?_
    lcg_off
    repeat tb_rel
    refine ⟨beq_eq_false_iff_ne.mpr fun q => by have := congrArg Array.size q; simp at this, or_nil ?_⟩
    repeat tb_rel
    refine ⟨rfl, _, _, _, _, _, rfl, F.mark, ?_⟩
    refine ⟨?_, ?_, ?_, ?_, ?_⟩ <;> first | with_unfolding_all assumption | with_unfolding_all rfl
  rintro s' ⟨h, g, t, m, cm, rfl, F, m1, m2, c2, c3, m4⟩
  refine s_join (TJ hp L d os (engNews p e chars big od) (fun m cm => m "first" = some (.int first u) ∧ m "engine" = some (.ref e) ∧ cm "signs" = some (.str (strL (natsOf chars)) u') ∧ cm "big" = some (.bool big) ∧ m "letter" = some (.bytes (letA script) u3))) ?_ ?_
  · repeat tb_rel
    refine b_truth (by omega) ?_
    intro _
    by_cases h0 : (letA script).size = 0
    · refine br_is false (by rw [h0]; rfl) ?_
      repeat tb_rel
      refine ⟨rfl, _, _, _, _, _, rfl, F.mark, ?_⟩
      refine ⟨?_, ?_, ?_, ?_, ?_⟩ <;> first | with_unfolding_all assumption | with_unfolding_all rfl
    · refine br_is true (by simpa using h0) ?_
      repeat tb_rel
      refine up hA (x_len_bytes (F.top X) (by omega) ?_)
      lcg_src
      repeat tb_rel
      refine i_mod (by omega) ?_
      intro ua _
      obtain ⟨a, ha, hal⟩ : ∃ a : Nat, first.fmod (((letA script).size : Nat) : Int) = (a : Int) ∧ a < (letA script).size := by
        have hz : (0 : Int) < (((letA script).size : Nat) : Int) := by omega
        rw [Int.fmod_eq_emod_of_nonneg _ (Int.le_of_lt hz)]
        have h1 := Int.emod_nonneg first (Int.ne_of_gt hz)
        have h2 := Int.emod_lt_of_pos first hz
        exact ⟨(first % (((letA script).size : Nat) : Int)).toNat, by omega, by omega⟩
      rw [ha]
      repeat tb_rel
      refine tl_B .none (.int _ _) (by omega) ?_ (by intro _; with_unfolding_all rfl) (by intro _; with_unfolding_all rfl)
      lcg_src
      rw [cut_to (by rw [Array.length_toList]; omega)]
      repeat tb_rel
      refine e_list ?_
      repeat tb_rel
      refine tl_bi (by omega) (by rw [Int.toNat_natCast]; exact hal) (by omega) ?_ (by with_unfolding_all rfl) (by intro _; with_unfolding_all rfl)
      intro _ _
      rw [Int.toNat_natCast]
      repeat tb_rel
      refine i_mod (by decide) ?_
      intro _ _
      obtain ⟨b8, hb8, hb8l⟩ : ∃ b : Nat, first.fmod 8 = (b : Int) ∧ b < 8 := ⟨(first.fmod 8).toNat, by rw [Int.fmod_eq_emod_of_nonneg _ (by decide)]; omega, by rw [Int.fmod_eq_emod_of_nonneg _ (by decide)]; omega⟩
      rw [hb8]
      repeat tb_rel
      refine i_shl (by omega) (by omega) (by decide) ?_
      intro _ _
      rw [show ((1 : Int) * 2 ^ ((b8 : Nat) : Int).toNat) = ((2 ^ b8 : Nat) : Int) by simp]
      repeat tb_rel
      rw [bitXor_nat]
      have hlb : ((letA script).getD a 0).toNat < 2 ^ 8 := UInt8.toNat_lt _
      have hxl : ((letA script).getD a 0).toNat ^^^ 2 ^ b8 < 2 ^ 8 := Nat.xor_lt_two_pow hlb (Nat.pow_lt_pow_right (by decide) hb8l)
      have hxn := xor_ne ((letA script).getD a 0).toNat b8
      generalize ((letA script).getD a 0).toNat ^^^ 2 ^ b8 = xv at hxl hxn ⊢
      repeat tb_rel
      refine list_q (by simp) ?_
      intro hq l kq hlq nlq
      replace F := F.kept kq
      clear kq nlq
      repeat tb_rel
      refine bintsN (ns := [((xv : Nat) : Int)]) ⟨_, hlq, rfl, _, rfl⟩ (.cons _ _ .nil) (fun n hn => by rw [List.mem_singleton.mp hn]; omega) (by simp) hA.hd ?_
      intro hz uz tz kz
      replace F := F.kept kz
      clear kz hlq
      rw [show byteArr [((xv : Nat) : Int)] = [xv.toUInt8].toArray from rfl]
      refine b_add (by simp; omega) ?_
      intro _ _
      repeat tb_rel
      refine tl_B (.int _ _) .none (by omega) ?_ (by intro _; with_unfolding_all rfl) (by intro _; with_unfolding_all rfl)
      lcg_src
      rw [show ((a : Int) + 1) = ((a + 1 : Nat) : Int) by omega, cut_from (by rw [Array.length_toList]; omega)]
      repeat tb_rel
      refine b_add (by simp; omega) ?_
      intro _ _
      repeat tb_rel
      refine consteq_ok (hA.less (by omega)) (F.top X) (by simp; omega) (by omega) ?_
      lcg_off
      repeat tb_rel
      refine br_is false ?_ ?_
      · rw [beq_eq_false_iff_ne]
        intro q
        have q := congrArg Array.toList q
        simp only [Array.toList_append] at q
        refine flip_ne (l := (letA script).toList) (a := a) (x := xv) (by rw [Array.length_toList]; exact hal) (by omega) ?_ q
        rw [show (letA script).toList.getD a 0 = (letA script).getD a 0 by simp [Array.getD_eq_getD_getElem?, List.getD_eq_getElem?_getD]]
        exact hxn
      repeat tb_rel
      refine ⟨rfl, _, _, _, _, _, rfl, F.mark, ?_⟩
      refine ⟨?_, ?_, ?_, ?_, ?_⟩ <;> first | with_unfolding_all assumption | with_unfolding_all rfl
  rintro s' ⟨h, g, t, m, cm, rfl, F, m1, m2, c2, c3, m4⟩
  exact next _ _ _ _ _ F m1 m2 c2 c3 m4
end
end
end
section
local macro_rules | `(tactic| x_close) => `(tactic| first
  | exact $(Lean.mkIdent `hk) _ _ Keeps.refl
  | exact $(Lean.mkIdent `hk) _ _ (keeps_of_mem (by assumption))
  | exact $(Lean.mkIdent `hk) _ _ _ Keeps.refl
  | exact $(Lean.mkIdent `hk) _ _ _ (keeps_of_mem (by assumption))
  | (apply $(Lean.mkIdent `hk); assumption)
  | (exact $(Lean.mkIdent `hk) _ _ _ (keeps_of_mem (by assumption)) (X.Mem.nw (by assumption) _ (List.mem_cons_self ..)).1 (X.Mem.nw (by assumption) _ (List.mem_cons_self ..)).2)
)
local macro_rules | `(tactic| lcg_off) => `(tactic| (intro $(Lean.mkIdent `h) _ $(Lean.mkIdent `k); (first | replace $(Lean.mkIdent `F) := WkT.kept $(Lean.mkIdent `F) $(Lean.mkIdent `k) | replace $(Lean.mkIdent `F) := Wk.kept $(Lean.mkIdent `F) $(Lean.mkIdent `k)); clear $(Lean.mkIdent `k)))
local macro_rules | `(tactic| lcg_src) => `(tactic| (intro $(Lean.mkIdent `h) _ _ $(Lean.mkIdent `k); (first | replace $(Lean.mkIdent `F) := WkT.kept $(Lean.mkIdent `F) $(Lean.mkIdent `k) | replace $(Lean.mkIdent `F) := Wk.kept $(Lean.mkIdent `F) $(Lean.mkIdent `k)); clear $(Lean.mkIdent `k)))
local macro_rules | `(tactic| tb_rel) => `(tactic| first
  | (with_reducible show wpAny _ _ (eval (Expr.Name _ _) _) _ _ _; first
      | with_reducible refine tL $(Lean.mkIdent `F) (by with_unfolding_all first | rfl | assumption) ?_ (by with_unfolding_all rfl) (by with_unfolding_all rfl) (by with_unfolding_all rfl) (by with_unfolding_all decide)
      | with_reducible refine tC $(Lean.mkIdent `F) (by with_unfolding_all first | rfl | assumption) ?_ (by with_unfolding_all rfl) (by with_unfolding_all rfl) (by with_unfolding_all rfl) (by with_unfolding_all rfl) (by with_unfolding_all decide)
      | with_reducible refine tGl $(Lean.mkIdent `X) $(Lean.mkIdent `F) (by with_unfolding_all rfl) ?_ (by with_unfolding_all rfl) (by with_unfolding_all rfl) (by with_unfolding_all rfl) (by with_unfolding_all rfl) (by with_unfolding_all decide)
      | with_reducible refine wL $(Lean.mkIdent `F) (by with_unfolding_all first | rfl | assumption) ?_ (by with_unfolding_all rfl) (by with_unfolding_all rfl) (by with_unfolding_all rfl) (by with_unfolding_all decide)
      | with_reducible refine wFr $(Lean.mkIdent `F) (by with_reducible assumption) (by with_unfolding_all first | rfl | assumption) ?_ (by with_unfolding_all rfl) (by with_unfolding_all rfl) (by with_unfolding_all rfl) (by with_unfolding_all decide) (by with_unfolding_all decide)
      | with_reducible refine wGl $(Lean.mkIdent `X) $(Lean.mkIdent `F) (by with_unfolding_all rfl) ?_ (by with_unfolding_all rfl) (by with_unfolding_all rfl) (by with_unfolding_all rfl) (by with_unfolding_all rfl) (by with_unfolding_all decide))
  | (with_reducible show wpAny _ _ (eval _ _) _ _ _; first
      | with_reducible refine sub_sl ?_
      | with_reducible refine e_int ?_
      | with_reducible refine e_str ?_
      | with_reducible refine e_bool ?_
      | with_reducible refine e_none ?_
      | with_reducible refine wpAny_BinOp ?_
      | with_reducible refine wpAny_Compare1 ?_
      | with_reducible refine wpAny_UnaryOp ?_
      | with_reducible refine callN ?_
      | with_reducible refine sub_ix ?_
      | with_reducible refine s_ifx ?_
      | with_reducible refine Attribute_name ?_)
  | (with_reducible show wpAny _ _ (execs _ _) _ _ _; first
      | with_reducible refine s_cons ?_
      | with_reducible refine s_nil ?_)
  | (with_reducible show wpAny _ _ (exec _ _) _ _ _; first
      | with_reducible refine wpAny_Assert_holds ?_
      | with_reducible refine s_if ?_
      | with_reducible refine wpAny_Return_some ?_
      | with_reducible refine wpAny_Assign_Name ?_ (by with_unfolding_all rfl)
      | with_reducible refine wpAny_AugAssign_Name ?_
      | with_reducible refine s_for ?_ (by intro _; with_unfolding_all rfl)
      | with_reducible refine s_expr ?_)
  | (with_reducible show wpAny _ _ (storeName _ _ _) _ _ _; first
      | (with_reducible refine tstL $(Lean.mkIdent `F) ?_ (by with_unfolding_all rfl) (by with_unfolding_all rfl) (by with_unfolding_all rfl); clear $(Lean.mkIdent `F); intro _ _ $(Lean.mkIdent `F))
      | (with_reducible refine tstC $(Lean.mkIdent `F) ?_ (by with_unfolding_all rfl) (by with_unfolding_all rfl) (by with_unfolding_all rfl) (by with_unfolding_all rfl); clear $(Lean.mkIdent `F); intro _ _ $(Lean.mkIdent `F))
      | (with_reducible refine wstL $(Lean.mkIdent `F) ?_ (by with_unfolding_all rfl) (by with_unfolding_all rfl) (by with_unfolding_all rfl); clear $(Lean.mkIdent `F); intro _ _ $(Lean.mkIdent `F)))
  | (with_reducible show wpAny _ _ (loadName _ _) _ _ _; first
      | with_reducible refine tldL $(Lean.mkIdent `F) (by with_unfolding_all first | rfl | assumption) ?_ (by with_unfolding_all rfl) (by with_unfolding_all rfl) (by with_unfolding_all rfl)
      | with_reducible refine tldC $(Lean.mkIdent `F) (by with_unfolding_all first | rfl | assumption) ?_ (by with_unfolding_all rfl) (by with_unfolding_all rfl) (by with_unfolding_all rfl) (by with_unfolding_all rfl)
      | with_reducible refine wldL $(Lean.mkIdent `F) (by with_unfolding_all first | rfl | assumption) ?_ (by with_unfolding_all rfl) (by with_unfolding_all rfl) (by with_unfolding_all rfl))
  | (with_reducible show wpAny _ _ (spliced _) _ _ _; first
      | with_reducible refine wpAny_items_cons ?_ (by with_unfolding_all rfl)
      | with_reducible refine wpAny_items_nil ?_)
  | (with_reducible show wpAny _ _ (callWith _ _ _ _ _) _ _ _; first
      | with_reducible refine callB ?_ (by with_unfolding_all rfl) (by with_unfolding_all rfl)
      | with_reducible refine callT ?_ (by with_unfolding_all rfl) (by with_unfolding_all rfl)
      | with_reducible refine callKn $(Lean.mkIdent `X) (by kernel_rfl) ?_ (by with_unfolding_all rfl) (by with_unfolding_all rfl))
  | (with_reducible show wpAny _ _ (isTrue _ _ _) _ _ _; first
      | with_reducible refine wpAny_isTrue_Compare1 ?_
      | with_reducible refine wpAny_isTrue_Not ?_
      | with_reducible refine wpAny_isTrue_BoolOp ?_
      | with_reducible refine wpAny_isTrue_value ?_ (by with_unfolding_all rfl))
  | (with_reducible show wpAny _ _ (truthy _) _ _ _; first
      | with_reducible refine t_bool ?_
      | with_reducible refine t_int ?_)
  | (with_reducible show wpAny _ _ (compareOp _ _ _) _ _ _; first
      | with_reducible refine i_eq ?_
      | with_reducible refine i_ne ?_
      | with_reducible refine i_lt ?_
      | with_reducible refine i_gt ?_
      | with_reducible refine i_ge ?_
      | with_reducible refine is_nn ?_)
  | (with_reducible show wpAny _ _ (binaryOp _ _ _) _ _ _; first
      | (with_reducible refine n_and63 ?_; intro _ _)
      | (with_reducible refine n_and15 ?_; intro _ _)
      | (with_reducible refine n_and3 ?_; intro _ _)
      | (with_reducible refine n_or ?_; intro _ _)
      | (with_reducible refine n_shr2 ?_; intro _ _)
      | (with_reducible refine n_shr4 ?_; intro _ _)
      | (with_reducible refine n_shr6 ?_; intro _ _)
      | (with_reducible refine n_shl2 (by omega) ?_; intro _ _)
      | (with_reducible refine n_shl4 (by omega) ?_; intro _ _)
      | (with_reducible refine n_shl6 (by omega) ?_; intro _ _)
      | (with_reducible refine i_add ?_; intro _ _)
      | (with_reducible refine i_sub ?_; intro _ _)
      | (with_reducible refine i_and ?_; intro _ _)
      | (with_reducible refine i_or ?_; intro _ _)
      | (with_reducible refine i_xor ?_; intro _ _))
  | (with_reducible show wpAny _ _ (inplaceOp _ _ _) _ _ _; first
      | (with_reducible refine i_iand ?_; intro _ _)
      | (with_reducible refine i_ior ?_; intro _ _)
      | (with_reducible refine i_iadd ?_; intro _ _))
  | (with_reducible show wpAny _ _ (unaryOp _ _) _ _ _; first
      | (with_reducible refine i_neg ?_; intro _ _)
      | (with_reducible refine i_inv ?_; intro _ _))
  | (with_reducible show wpAny _ _ (evalPart _ _) _ _ _; first
      | with_reducible refine part0 ?_
      | with_reducible refine part1 ?_)
  | with_reducible refine seg_execs_cons ?_
  | with_reducible refine seg_Assign ?_
  | with_reducible refine seg_Aug ?_
  | with_reducible refine seg_Assert ?_
  | with_reducible refine seg_If ?_
  | with_reducible refine st_next ?_
  | with_reducible refine sbr_t ?_
  | with_reducible refine sbr_f ?_
  | with_reducible refine br_t ?_
  | with_reducible refine br_f ?_
  | with_reducible refine br_nt ?_
  | with_reducible refine br_nf ?_
  | with_reducible refine then_next ?_
  | with_reducible refine then_ret ?_
  | with_reducible refine retQ ?_
  | with_reducible refine And.intro (fun _ => WkT.top $(Lean.mkIdent `F) $(Lean.mkIdent `X)) ?_
  | with_reducible refine And.intro (fun _ => Wk.top $(Lean.mkIdent `F) $(Lean.mkIdent `X)) ?_
  | with_reducible refine brE_t ?_
  | with_reducible refine brE_f ?_)
section
local macro_rules | `(tactic| tb_rel) => `(tactic| with_reducible refine e_bytes ?_)
section
variable {w : World} {A : Around} {hp h : Heap} {g : Array GenState} {d : Drawn} {t n n2 : Nat} {os : OsState} {sl L W D : Addr} {vs : List Value} {script : List Int} {first : Int} {m cm : Str → Option Value} {u u' u2 u3 u4 u5 u6 ur : Tok} {chars : Array UInt8} {t1 : Tok} {p : EngP} {e : Addr} {big : Bool} {od : Obj} {k : Nat} {ys zs : Array Value} {nS news : List (Addr × Obj)}
def tj (first : Int) : Nat := ((first.fdiv 5) % 4).toNat
theorem tj_lt (first : Int) : tj first < 4 := by unfold tj; omega
/-- the eleven signs of a number -/
def ndig (big : Bool) (N : Nat) : List Nat := lawDig big (octs big 8 N)
theorem ndig_len (big : Bool) (N : Nat) : (ndig big N).length = 11 := by unfold ndig; rw [lawDig_len, octs_size]; rfl
theorem ndig_lt (big : Bool) (N : Nat) : ∀ v ∈ ndig big N, v < 64 := lawDig_lt _ _
theorem nspoils (big : Bool) (N : Nat) (first : Int) : Spoils big (octs big 8 N) (tj first) :=
  spoils big _ _ (by rw [octs_size]; decide) (by rw [octs_size]; decide) (by rw [octs_size]; exact tj_lt first)
theorem tob_big {Q : Value → Shared → Prop} {E : Value → Shared → Prop} {N k : Nat} {t1 t2 t3 : Tok} (hk : k ≤ 8) (hN : N < 256 ^ k) (q : ∀ u t, Q (.bytes (octs true k N) u) ⟨h, g, d, t, os⟩) : wpAny (model pg w) A (call (.builtin "int.to_bytes") [.int (N : Int) t1, .int (k : Int) t2, .str "big" t3]) Q E ⟨h, g, d, t, os⟩ := by
  refine KTBy.to_big (s := ⟨h, g, d, t, os⟩) (B := 256 ^ k) hk rfl (by omega) (by rw [KTBy.p256]; exact Int.ofNat_lt.mpr hN) ?_
  intro b t' k' e2 _
  rw [little_leL, ← List.map_reverse] at e2
  rw [bInts_inj e2]
  exact q _ _
theorem tob_lit {Q : Value → Shared → Prop} {E : Value → Shared → Prop} {N k : Nat} {t1 t2 t3 : Tok} (hk : k ≤ 8) (hN : N < 256 ^ k) (q : ∀ u t, Q (.bytes (octs false k N) u) ⟨h, g, d, t, os⟩) : wpAny (model pg w) A (call (.builtin "int.to_bytes") [.int (N : Int) t1, .int (k : Int) t2, .str "little" t3]) Q E ⟨h, g, d, t, os⟩ := by
  refine KTBy.to_little (s := ⟨h, g, d, t, os⟩) (B := 256 ^ k) hk rfl (by omega) (by rw [KTBy.p256]; exact Int.ofNat_lt.mpr hN) ?_
  intro b t' k' e2 _
  rw [little_leL] at e2
  rw [bInts_inj e2]
  exact q _ _
theorem seg_j {g : BG} {Q : Flow → Shared → Prop} (hA : AOk A 47) (X : Top w (strike hp)) (C : Chs chars) (tab : EngTab chars od)
    (F : WkT (strike hp) L (LCs L) h h m cm (engNews p e chars big od)) (m1 : m "first" = some (.int first u)) (m2 : m "engine" = some (.ref e)) (c2 : cm "signs" = some (.str (strL (natsOf chars)) u')) (c3 : cm "big" = some (.bool big))
    (m4 : m "letter" = some (.bytes (letA script) u3))
    (next : ∀ h' (g' : BG) t' m' cm' N u1 u2 u3 u4, N < 2 ^ 64 → WkT (strike hp) L (LCs L) h' h' m' cm' (engNews p e chars big od) → m' "first" = some (.int first u) → m' "engine" = some (.ref e) → cm' "signs" = some (.str (strL (natsOf chars)) u') → cm' "big" = some (.bool big) →
      m' "number" = some (.int (N : Nat) u1) → m' "octets" = some (.bytes (octs big 8 N) u2) → m' "told" = some (.bytes (wordB chars (ndig big N)) u3) → m' "text" = some (.str (strL (wordL chars (spoilL big (tj first) (ndig big N)))) u4) →
      wpAny (model pg w) A (execs (B322 26) (LEnv L)) Q (fun _ _ => False) ⟨h', g', d, t', os⟩) :
    wpAny (model pg w) A (execs (B322 22) (LEnv L)) Q (fun _ _ => False) ⟨h, g, d, t, os⟩ := by
  have hll := letA_le script
  refine s_cons ?_
  repeat tb_rel
  refine MethodCall_ ?_ (by rfl)
  repeat tb_rel
  refine gm_fb (F.top X) ?_
  intro x h2 t2 k2 hx
  replace F := F.kept k2
  clear k2
  refine cw_fb ?_
  repeat tb_rel
  refine b_mul (by simp) (by omega) (by omega) (by simp) ?_
  intro _ _
  repeat tb_rel
  refine b_add (by simp; omega) ?_
  intro _ _
  repeat tb_rel
  refine tl_B .none (.int _ _) (by simp; omega) ?_ (by intro _; with_unfolding_all rfl) (by intro _; with_unfolding_all rfl)
  intro h3 t3 u9 k3
  replace F := F.kept k3
  replace hx := k3 _ _ hx
  clear k3
  have cut8 : ∀ l : List UInt8, 8 ≤ l.length → cutL l none (some (8 : Int)) = l.take 8 := fun l h => cut_to (a := 8) h
  rw [cut8 _ (by simp)]
  repeat tb_rel
  refine ⟨hx, ?_⟩
  have hsz : ((((letA script) ++ (List.replicate (8 : Int).toNat ([0] : List UInt8)).flatten.toArray).toList.take 8).toArray).size ≤ 8 := by
    rw [List.size_toArray, List.length_take]; omega
  refine fb_big hx hsz ?_
  intro un _
  have hlt := leN_lt ((((letA script) ++ (List.replicate (8 : Int).toNat ([0] : List UInt8)).flatten.toArray).toList.take 8).toArray).toList.reverse
  have hN : leN ((((letA script) ++ (List.replicate (8 : Int).toNat ([0] : List UInt8)).flatten.toArray).toList.take 8).toArray).toList.reverse < 2 ^ 64 := by
    refine Nat.lt_of_lt_of_le hlt ?_
    rw [show (2 : Nat) ^ 64 = 256 ^ 8 by decide]
    refine Nat.pow_le_pow_right (by decide) ?_
    rw [List.length_reverse, Array.length_toList]; exact hsz
  clear hx hsz hlt
  generalize leN ((((letA script) ++ (List.replicate (8 : Int).toNat ([0] : List UInt8)).flatten.toArray).toList.take 8).toArray).toList.reverse = N at hN ⊢
  repeat ((fail_if_success (with_reducible refine at_cons ?_)); tb_rel)
  refine s_join (TJ hp L d os (engNews p e chars big od) (fun m cm => m "first" = some (.int first u) ∧ m "engine" = some (.ref e) ∧ cm "signs" = some (.str (strL (natsOf chars)) u') ∧ cm "big" = some (.bool big) ∧ m "number" = some (.int (N : Nat) un) ∧ ∃ u2, m "octets" = some (.bytes (octs big 8 N) u2))) ?_ ?_
  · repeat tb_rel
    cases big
    · repeat tb_rel
      refine MethodCall_ ?_ (by rfl)
      repeat tb_rel
      refine KTBy.method ?_
      dsimp only
      refine callWith_method1 ?_
      repeat tb_rel
      refine tob_lit (k := 8) (by decide) (by omega) ?_
      intro uo _
      repeat tb_rel
      refine ⟨rfl, _, _, _, _, _, rfl, F.mark, ?_⟩
      refine ⟨?_, ?_, ?_, ?_, ?_, uo, ?_⟩ <;> first | with_unfolding_all assumption | with_unfolding_all rfl
    · repeat tb_rel
      refine MethodCall_ ?_ (by rfl)
      repeat tb_rel
      refine KTBy.method ?_
      dsimp only
      refine callWith_method1 ?_
      repeat tb_rel
      refine tob_big (k := 8) (by decide) (by omega) ?_
      intro uo _
      repeat tb_rel
      refine ⟨rfl, _, _, _, _, _, rfl, F.mark, ?_⟩
      refine ⟨?_, ?_, ?_, ?_, ?_, uo, ?_⟩ <;> first | with_unfolding_all assumption | with_unfolding_all rfl
  rintro s' ⟨h, g, t, m, cm, rfl, F, m1, m2, c2, c3, m5, u2, m6⟩
  have hnl := ndig_len big N
  have hnt := ndig_lt big N
  have NS := nspoils big N first
  refine s_cons ?_
  repeat tb_rel
  refine MethodCall_ ?_ (by rfl)
  repeat tb_rel
  refine gm_fn (f := 291) (F.top X) (eng_of F tab C.size fun _ q => q).out (by kernel_rfl) (by kernel_rfl) (by kernel_rfl) ?_
  repeat tb_rel
  refine enc64_ok (hA.less (by omega)) (F.top X) F.T (eng_of F tab C.size fun _ q => q) hN ?_
  intro h4 g4 t4 u4 k4 T4
  replace F := F.keptG k4 T4
  clear k4 T4
  rw [outArr_word, dig11_law big N hN, show lawDig big (octs big 8 N) = ndig big N from rfl]
  repeat ((fail_if_success (with_reducible refine at_cons ?_)); tb_rel)
  refine s_cons ?_
  refine Assign_Tuple ?_ (by rfl) (by rfl)
  repeat tb_rel
  refine MethodCall_ ?_ (by rfl)
  repeat tb_rel
  refine KBd.method ?_
  dsimp only
  refine callWith_method1 ?_
  repeat tb_rel
  refine dec_w C hnt (fun q => by rw [q] at hnl; simp at hnl) (by omega) ?_
  intro _ _
  repeat tb_rel
  refine i_div (by decide) (by decide) ?_
  intro _ _
  repeat tb_rel
  refine spoil_ok (j := tj first) hnt (fun q => by rw [q] at hnl; simp at hnl) (by omega) (hA.less (by omega)) (F.top X) C (by rw [hnl]; unfold tj; show _ % ((4 : Nat) : Int) = _; omega) (by have := NS.lt; rw [octs_size] at this; rw [hnl]; exact this) ?_
  intro h7 t7 Tp u7 k7 nT hT
  replace F := F.kept k7
  clear k7 nT
  refine tasg2 hA.hd F hT (fun h8 t8 F8 => ?_) rfl rfl rfl rfl
  clear F; rename _ => F
  repeat ((fail_if_success (with_reducible refine at_cons ?_)); tb_rel)
  refine next _ _ _ _ _ N un u2 u4 u7 hN F.mark ?_ ?_ ?_ ?_ ?_ ?_ ?_ ?_
  all_goals first | with_unfolding_all assumption | with_unfolding_all rfl
end
end
end
section
local macro_rules | `(tactic| lcg_off) => `(tactic| (intro $(Lean.mkIdent `h) _ $(Lean.mkIdent `k); (first | replace $(Lean.mkIdent `F) := WkT.kept $(Lean.mkIdent `F) $(Lean.mkIdent `k) | replace $(Lean.mkIdent `F) := Wk.kept $(Lean.mkIdent `F) $(Lean.mkIdent `k)); clear $(Lean.mkIdent `k)))
local macro_rules | `(tactic| lcg_src) => `(tactic| (intro $(Lean.mkIdent `h) _ _ $(Lean.mkIdent `k); (first | replace $(Lean.mkIdent `F) := WkT.kept $(Lean.mkIdent `F) $(Lean.mkIdent `k) | replace $(Lean.mkIdent `F) := Wk.kept $(Lean.mkIdent `F) $(Lean.mkIdent `k)); clear $(Lean.mkIdent `k)))
local macro_rules | `(tactic| x_close) => `(tactic| first
  | exact $(Lean.mkIdent `hk) _ _ Keeps.refl
  | exact $(Lean.mkIdent `hk) _ _ (keeps_of_mem (by assumption))
  | exact $(Lean.mkIdent `hk) _ _ _ Keeps.refl
  | exact $(Lean.mkIdent `hk) _ _ _ (keeps_of_mem (by assumption))
  | (apply $(Lean.mkIdent `hk); assumption)
  | (exact $(Lean.mkIdent `hk) _ _ _ (keeps_of_mem (by assumption)) (X.Mem.nw (by assumption) _ (List.mem_cons_self ..)).1 (X.Mem.nw (by assumption) _ (List.mem_cons_self ..)).2)
)
local macro_rules | `(tactic| tb_rel) => `(tactic| first
  | (with_reducible show wpAny _ _ (eval (Expr.Name _ _) _) _ _ _; first
      | with_reducible refine tL $(Lean.mkIdent `F) (by with_unfolding_all first | rfl | assumption) ?_ (by with_unfolding_all rfl) (by with_unfolding_all rfl) (by with_unfolding_all rfl) (by with_unfolding_all decide)
      | with_reducible refine tC $(Lean.mkIdent `F) (by with_unfolding_all first | rfl | assumption) ?_ (by with_unfolding_all rfl) (by with_unfolding_all rfl) (by with_unfolding_all rfl) (by with_unfolding_all rfl) (by with_unfolding_all decide)
      | with_reducible refine tGl $(Lean.mkIdent `X) $(Lean.mkIdent `F) (by with_unfolding_all rfl) ?_ (by with_unfolding_all rfl) (by with_unfolding_all rfl) (by with_unfolding_all rfl) (by with_unfolding_all rfl) (by with_unfolding_all decide)
      | with_reducible refine wL $(Lean.mkIdent `F) (by with_unfolding_all first | rfl | assumption) ?_ (by with_unfolding_all rfl) (by with_unfolding_all rfl) (by with_unfolding_all rfl) (by with_unfolding_all decide)
      | with_reducible refine wFr $(Lean.mkIdent `F) (by with_reducible assumption) (by with_unfolding_all first | rfl | assumption) ?_ (by with_unfolding_all rfl) (by with_unfolding_all rfl) (by with_unfolding_all rfl) (by with_unfolding_all decide) (by with_unfolding_all decide)
      | with_reducible refine wGl $(Lean.mkIdent `X) $(Lean.mkIdent `F) (by with_unfolding_all rfl) ?_ (by with_unfolding_all rfl) (by with_unfolding_all rfl) (by with_unfolding_all rfl) (by with_unfolding_all rfl) (by with_unfolding_all decide))
  | (with_reducible show wpAny _ _ (eval _ _) _ _ _; first
      | with_reducible refine e_int ?_
      | with_reducible refine e_str ?_
      | with_reducible refine wpAny_BinOp ?_
      | with_reducible refine wpAny_Compare1 ?_
      | with_reducible refine wpAny_UnaryOp ?_
      | with_reducible refine callN ?_
      | with_reducible refine sub_sl ?_
      | with_reducible refine sub_ix ?_
      | with_reducible refine s_ifx ?_
      | with_reducible refine Attribute_name ?_
      | with_reducible refine e_bool ?_
      | with_reducible refine e_none ?_)
  | (with_reducible show wpAny _ _ (execs _ _) _ _ _; first
      | with_reducible refine s_cons ?_
      | with_reducible refine s_nil ?_)
  | (with_reducible show wpAny _ _ (exec _ _) _ _ _; first
      | with_reducible refine wpAny_Assign_Name ?_ (by with_unfolding_all rfl)
      | with_reducible refine s_if ?_
      | with_reducible refine wpAny_Return_some ?_
      | with_reducible refine wpAny_AugAssign_Name ?_
      | with_reducible refine s_for ?_ (by intro _; with_unfolding_all rfl)
      | with_reducible refine wpAny_Assert_holds ?_)
  | (with_reducible show wpAny _ _ (storeName _ _ _) _ _ _; first
      | (with_reducible refine tstL $(Lean.mkIdent `F) ?_ (by with_unfolding_all rfl) (by with_unfolding_all rfl) (by with_unfolding_all rfl); clear $(Lean.mkIdent `F); intro _ _ $(Lean.mkIdent `F))
      | (with_reducible refine tstC $(Lean.mkIdent `F) ?_ (by with_unfolding_all rfl) (by with_unfolding_all rfl) (by with_unfolding_all rfl) (by with_unfolding_all rfl); clear $(Lean.mkIdent `F); intro _ _ $(Lean.mkIdent `F))
      | (with_reducible refine wstL $(Lean.mkIdent `F) ?_ (by with_unfolding_all rfl) (by with_unfolding_all rfl) (by with_unfolding_all rfl); clear $(Lean.mkIdent `F); intro _ _ $(Lean.mkIdent `F)))
  | (with_reducible show wpAny _ _ (loadName _ _) _ _ _; first
      | with_reducible refine tldL $(Lean.mkIdent `F) (by with_unfolding_all first | rfl | assumption) ?_ (by with_unfolding_all rfl) (by with_unfolding_all rfl) (by with_unfolding_all rfl)
      | with_reducible refine tldC $(Lean.mkIdent `F) (by with_unfolding_all first | rfl | assumption) ?_ (by with_unfolding_all rfl) (by with_unfolding_all rfl) (by with_unfolding_all rfl) (by with_unfolding_all rfl)
      | with_reducible refine wldL $(Lean.mkIdent `F) (by with_unfolding_all first | rfl | assumption) ?_ (by with_unfolding_all rfl) (by with_unfolding_all rfl) (by with_unfolding_all rfl))
  | (with_reducible show wpAny _ _ (spliced _) _ _ _; first
      | with_reducible refine wpAny_items_cons ?_ (by with_unfolding_all rfl)
      | with_reducible refine wpAny_items_nil ?_)
  | (with_reducible show wpAny _ _ (callWith _ _ _ _ _) _ _ _; first
      | with_reducible refine callB ?_ (by with_unfolding_all rfl) (by with_unfolding_all rfl)
      | with_reducible refine callT ?_ (by with_unfolding_all rfl) (by with_unfolding_all rfl)
      | with_reducible refine callKn $(Lean.mkIdent `X) (by kernel_rfl) ?_ (by with_unfolding_all rfl) (by with_unfolding_all rfl))
  | (with_reducible show wpAny _ _ (isTrue _ _ _) _ _ _; first
      | with_reducible refine wpAny_isTrue_Compare1 ?_
      | with_reducible refine wpAny_isTrue_Not ?_
      | with_reducible refine wpAny_isTrue_BoolOp ?_
      | with_reducible refine wpAny_isTrue_value ?_ (by with_unfolding_all rfl))
  | (with_reducible show wpAny _ _ (truthy _) _ _ _; first
      | with_reducible refine t_bool ?_
      | with_reducible refine t_int ?_)
  | (with_reducible show wpAny _ _ (compareOp _ _ _) _ _ _; first
      | with_reducible refine i_eq ?_
      | with_reducible refine i_ne ?_
      | with_reducible refine i_lt ?_
      | with_reducible refine i_gt ?_
      | with_reducible refine i_ge ?_
      | with_reducible refine is_nn ?_)
  | (with_reducible show wpAny _ _ (binaryOp _ _ _) _ _ _; first
      | (with_reducible refine n_and63 ?_; intro _ _)
      | (with_reducible refine n_and15 ?_; intro _ _)
      | (with_reducible refine n_and3 ?_; intro _ _)
      | (with_reducible refine n_or ?_; intro _ _)
      | (with_reducible refine n_shr2 ?_; intro _ _)
      | (with_reducible refine n_shr4 ?_; intro _ _)
      | (with_reducible refine n_shr6 ?_; intro _ _)
      | (with_reducible refine n_shl2 (by omega) ?_; intro _ _)
      | (with_reducible refine n_shl4 (by omega) ?_; intro _ _)
      | (with_reducible refine n_shl6 (by omega) ?_; intro _ _)
      | (with_reducible refine i_add ?_; intro _ _)
      | (with_reducible refine i_sub ?_; intro _ _)
      | (with_reducible refine i_and ?_; intro _ _)
      | (with_reducible refine i_or ?_; intro _ _)
      | (with_reducible refine i_xor ?_; intro _ _))
  | (with_reducible show wpAny _ _ (inplaceOp _ _ _) _ _ _; first
      | (with_reducible refine i_iand ?_; intro _ _)
      | (with_reducible refine i_ior ?_; intro _ _)
      | (with_reducible refine i_iadd ?_; intro _ _))
  | (with_reducible show wpAny _ _ (unaryOp _ _) _ _ _; first
      | (with_reducible refine i_neg ?_; intro _ _)
      | (with_reducible refine i_inv ?_; intro _ _))
  | (with_reducible show wpAny _ _ (evalPart _ _) _ _ _; first
      | with_reducible refine part0 ?_
      | with_reducible refine part1 ?_)
  | with_reducible refine then_next ?_
  | with_reducible refine then_ret ?_
  | with_reducible refine br_t ?_
  | with_reducible refine br_f ?_
  | with_reducible refine br_nt ?_
  | with_reducible refine br_nf ?_
  | with_reducible refine And.intro (fun _ => WkT.top $(Lean.mkIdent `F) $(Lean.mkIdent `X)) ?_
  | with_reducible refine And.intro (fun _ => Wk.top $(Lean.mkIdent `F) $(Lean.mkIdent `X)) ?_
  | with_reducible refine retQ ?_
  | with_reducible refine brE_t ?_
  | with_reducible refine brE_f ?_)
section
section
variable {w : World} {A : Around} {hp h : Heap} {g : Array GenState} {d : Drawn} {t n n2 : Nat} {os : OsState} {sl L W D : Addr} {vs : List Value} {script : List Int} {first : Int} {m cm : Str → Option Value} {u u' u1 u2 u3 u4 u5 u6 ur : Tok} {chars : Array UInt8} {t1 : Tok} {p : EngP} {e : Addr} {big : Bool} {od : Obj} {k N : Nat} {ys zs : Array Value} {nS news : List (Addr × Obj)}
/-- what is asked of the spoiled signs of a number -/
structure NDok (big : Bool) (N : Nat) (sd : List Nat) : Prop where
  lt : ∀ v ∈ sd, v < 64
  ne : sd ≠ []
  len : sd.length = 11
  fix : fixL (padBx big sd.length) sd = ndig big N
  dec : decArr big sd 11 = octs big 8 N
  dlt : ∀ j < decN 11, decF big sd j < 256
  num : num11 big sd = N
theorem ndok (big : Bool) (N : Nat) (first : Int) (hN : N < 2 ^ 64) : NDok big N (spoilL big (tj first) (ndig big N)) := by
  obtain ⟨a1, a2, a3, a4, a5, a6, a7, a8, a9⟩ := nspoils big N first
  rw [octs_size] at a3 a4 a5 a7
  have hl : (spoilL big (tj first) (ndig big N)).length = 11 := a7
  refine ⟨a8, fun q => by rw [q] at hl; simp at hl, hl, by rw [hl]; exact a3, a4, a5, num11_law big N (tj first) hN (tj_lt first)⟩
theorem seg_k {g : BG} {Q : Flow → Shared → Prop} (hA : AOk A 47) (X : Top w (strike hp)) (C : Chs chars) (tab : EngTab chars od) (hN : N < 2 ^ 64)
    (F : WkT (strike hp) L (LCs L) h h m cm (engNews p e chars big od)) (m1 : m "first" = some (.int first u)) (m2 : m "engine" = some (.ref e)) (c2 : cm "signs" = some (.str (strL (natsOf chars)) u')) (c3 : cm "big" = some (.bool big))
    (m5 : m "number" = some (.int (N : Nat) u1)) (m6 : m "octets" = some (.bytes (octs big 8 N) u2)) (m7 : m "told" = some (.bytes (wordB chars (ndig big N)) u3)) (m8 : m "text" = some (.str (strL (wordL chars (spoilL big (tj first) (ndig big N)))) u4))
    (next : ∀ h' (g' : BG) t' m' cm', WkT (strike hp) L (LCs L) h' h' m' cm' (engNews p e chars big od) → m' "first" = some (.int first u) → m' "engine" = some (.ref e) → cm' "signs" = some (.str (strL (natsOf chars)) u') → cm' "big" = some (.bool big) →
      m' "number" = some (.int (N : Nat) u1) →
      wpAny (model pg w) A (execs (B322 28) (LEnv L)) Q (fun _ _ => False) ⟨h', g', d, t', os⟩) :
    wpAny (model pg w) A (execs (B322 26) (LEnv L)) Q (fun _ _ => False) ⟨h, g, d, t, os⟩ := by
  have SD := ndok big N first hN
  have hnl := ndig_len big N
  have hnt := ndig_lt big N
  generalize spoilL big (tj first) (ndig big N) = sd at SD m8
  refine s_join (TJ hp L d os (engNews p e chars big od) (fun m cm => m "first" = some (.int first u) ∧ m "engine" = some (.ref e) ∧ cm "signs" = some (.str (strL (natsOf chars)) u') ∧ cm "big" = some (.bool big) ∧ m "number" = some (.int (N : Nat) u1) ∧ m "told" = some (.bytes (wordB chars (ndig big N)) u3) ∧ m "text" = some (.str (strL (wordL chars sd)) u4))) ?_ ?_
  · repeat tb_rel
    refine or_f ?_
    repeat tb_rel
    refine MethodCall_ ?_ (by rfl)
    repeat tb_rel
    refine gm_fn (f := 121) (F.top X) (eng_of F tab C.size fun _ q => q).out (by kernel_rfl) (by kernel_rfl) (by kernel_rfl) ?_
    repeat tb_rel
    refine enc_ok (hA.less (by omega)) (F.top X) (eng_of F tab C.size fun _ q => q).out (by rw [octs_size]; decide) ?_
    intro hE' gE tE uE kE
    replace F := F.kept kE
    clear kE
    rw [encArr_law chars big _ (by rw [octs_size]; decide), show lawDig big (octs big 8 N) = ndig big N from rfl]
    repeat tb_rel
    refine b_ne_same rfl ?_
    repeat tb_rel
    refine ⟨rfl, or_f ?_⟩
    repeat tb_rel
    refine MethodCall_ ?_ (by rfl)
    repeat tb_rel
    refine gm_fn (f := 142) (F.top X) (eng_of F tab C.size fun _ q => q).out (by kernel_rfl) (by kernel_rfl) (by kernel_rfl) ?_
    repeat tb_rel
    refine MethodCall_ ?_ (by rfl)
    repeat tb_rel
    refine gm_encode ?_
    repeat tb_rel
    refine enc_w C SD.lt (by rw [SD.len]; decide) ?_
    intro _ _
    repeat tb_rel
    refine dec_ok (vs := sd) (hA.less (by omega)) (F.top X) (eng_of F tab C.size fun _ q => q).out (by rw [wordB_size, SD.len]; decide) (spells_word C SD.lt) (by rw [wordB_size, SD.len]; decide) (by rw [wordB_size, SD.len]; exact SD.dlt) ?_
    intro hd gd td ud kd
    replace F := F.kept kd
    clear kd
    rw [wordB_size, SD.len, SD.dec]
    repeat tb_rel
    refine b_ne_same rfl ?_
    repeat tb_rel
    refine ⟨rfl, or_nil ?_⟩
    repeat tb_rel
    refine ⟨rfl, _, _, _, _, _, rfl, F.mark, ?_⟩
    refine ⟨?_, ?_, ?_, ?_, ?_, ?_, ?_⟩ <;> with_unfolding_all assumption
  rintro s' ⟨h, g, t, m, cm, rfl, F, m1, m2, c2, c3, m5, m7, m8⟩
  refine s_join (TJ hp L d os (engNews p e chars big od) (fun m cm => m "first" = some (.int first u) ∧ m "engine" = some (.ref e) ∧ cm "signs" = some (.str (strL (natsOf chars)) u') ∧ cm "big" = some (.bool big) ∧ m "number" = some (.int (N : Nat) u1))) ?_ ?_
  · repeat tb_rel
    refine or_f ?_
    repeat tb_rel
    refine MethodCall_ ?_ (by rfl)
    repeat tb_rel
    refine gm_fn (f := 249) (F.top X) (eng_of F tab C.size fun _ q => q).out (by kernel_rfl) (by kernel_rfl) (by kernel_rfl) ?_
    repeat tb_rel
    refine MethodCall_ ?_ (by rfl)
    repeat tb_rel
    refine gm_encode ?_
    repeat tb_rel
    refine enc_w C SD.lt (by rw [SD.len]; decide) ?_
    intro _ _
    repeat tb_rel
    refine decint64_ok (vs := sd) (hA.less (by omega)) (F.top X) (eng_of F tab C.size fun _ q => q).out (by rw [wordB_size, SD.len]) (spells_word C SD.lt) ?_
    lcg_src
    rw [SD.num]
    repeat tb_rel
    refine ⟨by simp, or_f ?_⟩
    repeat tb_rel
    refine MethodCall_ ?_ (by rfl)
    repeat tb_rel
    refine gm_fn (f := 193) (F.top X) (eng_of F tab C.size fun _ q => q).out (by kernel_rfl) (by kernel_rfl) (by kernel_rfl) ?_
    repeat tb_rel
    refine rep_s SD.lt SD.ne (by rw [SD.len]; decide) (by rw [SD.len]; decide) (hA.less (by omega)) (F.top X) F.T (eng_of F tab C.size fun _ q => q) C ?_
    intro hR gR tR uR kR TR
    replace F := F.keptG kR TR
    clear kR TR
    rw [SD.fix]
    repeat tb_rel
    refine MethodCall_ ?_ (by rfl)
    repeat tb_rel
    refine KBd.method ?_
    dsimp only
    refine callWith_method1 ?_
    repeat tb_rel
    refine dec_w C hnt (fun q => by rw [q] at hnl; simp at hnl) (by omega) ?_
    intro _ _
    repeat tb_rel
    refine s_ne_same rfl ?_
    repeat tb_rel
    refine ⟨rfl, or_nil ?_⟩
    repeat tb_rel
    refine ⟨rfl, _, _, _, _, _, rfl, F.mark, ?_⟩
    refine ⟨?_, ?_, ?_, ?_, ?_⟩ <;> with_unfolding_all assumption
  rintro s' ⟨h, g, t, m, cm, rfl, F, m1, m2, c2, c3, m5⟩
  exact next _ _ _ _ _ F m1 m2 c2 c3 m5
end
end
section
/-- the four signs of a low number -/
def fdig (big : Bool) (N : Nat) : List Nat := lawDig big (octs big 3 N)
theorem fdig_len (big : Bool) (N : Nat) : (fdig big N).length = 4 := by unfold fdig; rw [lawDig_len, octs_size]; rfl
theorem fdig_lt (big : Bool) (N : Nat) : ∀ v ∈ fdig big N, v < 64 := lawDig_lt _ _
theorem spoil0 {big : Bool} {vs : List Nat} (h : vs ≠ []) : spoilL big 0 vs = vs := by
  unfold spoilL spoA
  rw [show (if big = true then 0 else 0 * 2 ^ (6 - freeN vs.length)) = 0 by split <;> simp, Nat.add_zero]
  exact dropLast_last h
theorem fd_dec (big : Bool) (N : Nat) : decArr big (fdig big N) 4 = octs big 3 N ∧ ∀ j < decN 4, decF big (fdig big N) j < 256 := by
  have SP := spoils big (octs big 3 N) 0 (by rw [octs_size]; decide) (by rw [octs_size]; decide) (Nat.two_pow_pos _)
  have h0 : spoilL big 0 (lawDig big (octs big 3 N)) = fdig big N := spoil0 SP.ne
  have h1 := SP.dec
  have h2 := SP.dlt
  rw [h0, octs_size] at h1 h2
  exact ⟨h1, h2⟩
section
variable {w : World} {A : Around} {hp h : Heap} {g : Array GenState} {d : Drawn} {t n n2 : Nat} {os : OsState} {sl L W D : Addr} {vs : List Value} {script : List Int} {first : Int} {m cm : Str → Option Value} {u u' u1 u2 u3 u4 u5 u6 ur : Tok} {chars : Array UInt8} {t1 : Tok} {p : EngP} {e : Addr} {big : Bool} {od : Obj} {k N : Nat} {ys zs : Array Value} {nS news : List (Addr × Obj)}
theorem seg_l {g : BG} {Q : Flow → Shared → Prop} (hA : AOk A 47) (X : Top w (strike hp)) (C : Chs chars) (tab : EngTab chars od)
    (F : WkT (strike hp) L (LCs L) h h m cm (engNews p e chars big od)) (m1 : m "first" = some (.int first u)) (m2 : m "engine" = some (.ref e)) (c2 : cm "signs" = some (.str (strL (natsOf chars)) u')) (c3 : cm "big" = some (.bool big))
    (m5 : m "number" = some (.int (N : Nat) u1))
    (next : ∀ h' (g' : BG) t' m' cm', WkT (strike hp) L (LCs L) h' h' m' cm' (engNews p e chars big od) → m' "first" = some (.int first u) → m' "engine" = some (.ref e) → cm' "signs" = some (.str (strL (natsOf chars)) u') → 
      wpAny (model pg w) A (execs (B322 32) (LEnv L)) Q (fun _ _ => False) ⟨h', g', d, t', os⟩) :
    wpAny (model pg w) A (execs (B322 28) (LEnv L)) Q (fun _ _ => False) ⟨h, g, d, t, os⟩ := by
  refine s_cons ?_
  repeat tb_rel
  refine i_mod (by decide) ?_
  intro ul _
  obtain ⟨lo, hlo, hll⟩ : ∃ lo : Nat, ((N : Nat) : Int).fmod 16777216 = (lo : Int) ∧ lo < 2 ^ 24 := ⟨N % 16777216, by rw [Int.fmod_eq_emod_of_nonneg _ (by decide)]; omega, Nat.mod_lt _ (by decide)⟩
  rw [hlo]
  repeat ((fail_if_success (with_reducible refine at_cons ?_)); tb_rel)
  refine s_join (TJ hp L d os (engNews p e chars big od) (fun m cm => m "first" = some (.int first u) ∧ m "engine" = some (.ref e) ∧ cm "signs" = some (.str (strL (natsOf chars)) u') ∧ cm "big" = some (.bool big) ∧ m "low" = some (.int (lo : Nat) ul) ∧ ∃ u2, m "octets" = some (.bytes (octs big 3 lo) u2))) ?_ ?_
  · repeat tb_rel
    cases big
    · repeat tb_rel
      refine MethodCall_ ?_ (by rfl)
      repeat tb_rel
      refine KTBy.method ?_
      dsimp only
      refine callWith_method1 ?_
      repeat tb_rel
      refine tob_lit (k := 3) (by decide) (by omega) ?_
      intro uo _
      repeat tb_rel
      refine ⟨rfl, _, _, _, _, _, rfl, F.mark, ?_⟩
      refine ⟨?_, ?_, ?_, ?_, ?_, uo, ?_⟩ <;> first | with_unfolding_all assumption | with_unfolding_all rfl
    · repeat tb_rel
      refine MethodCall_ ?_ (by rfl)
      repeat tb_rel
      refine KTBy.method ?_
      dsimp only
      refine callWith_method1 ?_
      repeat tb_rel
      refine tob_big (k := 3) (by decide) (by omega) ?_
      intro uo _
      repeat tb_rel
      refine ⟨rfl, _, _, _, _, _, rfl, F.mark, ?_⟩
      refine ⟨?_, ?_, ?_, ?_, ?_, uo, ?_⟩ <;> first | with_unfolding_all assumption | with_unfolding_all rfl
  rintro s' ⟨h, g, t, m, cm, rfl, F, m1, m2, c2, c3, m5, u2, m6⟩
  have hfl := fdig_len big lo
  have hft := fdig_lt big lo
  obtain ⟨hfd, hfx⟩ := fd_dec big lo
  refine s_cons ?_
  repeat tb_rel
  refine MethodCall_ ?_ (by rfl)
  repeat tb_rel
  refine gm_fn (f := 277) (F.top X) (eng_of F tab C.size fun _ q => q).out (by kernel_rfl) (by kernel_rfl) (by kernel_rfl) ?_
  repeat tb_rel
  refine enc24_ok (hA.less (by omega)) (F.top X) (eng_of F tab C.size fun _ q => q).out (by omega) ?_
  lcg_src
  rw [outArr_word, dig4_law big lo hll, show lawDig big (octs big 3 lo) = fdig big lo from rfl]
  repeat ((fail_if_success (with_reducible refine at_cons ?_)); tb_rel)
  refine s_join (TJ hp L d os (engNews p e chars big od) (fun m cm => m "first" = some (.int first u) ∧ m "engine" = some (.ref e) ∧ cm "signs" = some (.str (strL (natsOf chars)) u'))) ?_ ?_
  · repeat tb_rel
    refine or_f ?_
    repeat tb_rel
    refine MethodCall_ ?_ (by rfl)
    repeat tb_rel
    refine gm_fn (f := 121) (F.top X) (eng_of F tab C.size fun _ q => q).out (by kernel_rfl) (by kernel_rfl) (by kernel_rfl) ?_
    repeat tb_rel
    refine enc_ok (hA.less (by omega)) (F.top X) (eng_of F tab C.size fun _ q => q).out (by rw [octs_size]; decide) ?_
    intro hE' gE tE uE kE
    replace F := F.kept kE
    clear kE
    rw [encArr_law chars big _ (by rw [octs_size]; decide), show lawDig big (octs big 3 lo) = fdig big lo from rfl]
    repeat tb_rel
    refine b_ne_same rfl ?_
    repeat tb_rel
    refine ⟨rfl, or_f ?_⟩
    repeat tb_rel
    refine MethodCall_ ?_ (by rfl)
    repeat tb_rel
    refine gm_fn (f := 235) (F.top X) (eng_of F tab C.size fun _ q => q).out (by kernel_rfl) (by kernel_rfl) (by kernel_rfl) ?_
    repeat tb_rel
    refine dec24_ok (vs := fdig big lo) (hA.less (by omega)) (F.top X) (eng_of F tab C.size fun _ q => q).out (by rw [wordB_size, hfl]) (spells_word C hft) ?_
    lcg_src
    rw [show num4 big (fdig big lo) = lo from num4_law big lo hll]
    repeat tb_rel
    refine ⟨by simp, or_f ?_⟩
    repeat tb_rel
    refine MethodCall_ ?_ (by rfl)
    repeat tb_rel
    refine gm_fn (f := 142) (F.top X) (eng_of F tab C.size fun _ q => q).out (by kernel_rfl) (by kernel_rfl) (by kernel_rfl) ?_
    repeat tb_rel
    refine dec_ok (vs := fdig big lo) (hA.less (by omega)) (F.top X) (eng_of F tab C.size fun _ q => q).out (by rw [wordB_size, hfl]; decide) (spells_word C hft) (by rw [wordB_size, hfl]; decide) (by rw [wordB_size, hfl]; exact hfx) ?_
    intro hd gd td ud kd
    replace F := F.kept kd
    clear kd
    rw [wordB_size, hfl, hfd]
    repeat tb_rel
    refine b_ne_same rfl ?_
    repeat tb_rel
    refine ⟨rfl, or_nil ?_⟩
    repeat tb_rel
    refine ⟨rfl, _, _, _, _, _, rfl, F.mark, ?_⟩
    refine ⟨?_, ?_, ?_⟩ <;> with_unfolding_all assumption
  rintro s' ⟨h, g, t, m, cm, rfl, F, m1, m2, c2⟩
  exact next _ _ _ _ _ F m1 m2 c2
end
end
section
def lessL (h : Heap) (L : Addr) : Heap := ⟨h.objs.setIfInBounds L dead, h.life⟩
theorem lessL_out (h : Heap) (L : Addr) : (lessL h L).get? L = none := by
  have key : (lessL h L).objs[L]? = some dead ∨ (lessL h L).objs[L]? = none := by
    unfold lessL
    simp only [Array.getElem?_setIfInBounds]
    split <;> (try split) <;> simp_all
  unfold Heap.get?
  rcases key with e | e <;> rw [e] <;> rfl
theorem lessL_ne {h : Heap} {L b : Addr} (hb : b ≠ L) : (lessL h L).get? b = h.get? b := by
  unfold Heap.get? lessL
  simp only [Array.getElem?_setIfInBounds, Ne.symm hb, if_false]
theorem lessL_stays (h : Heap) (L : Addr) : (lessL h L).StaysIn h := fun b o e => by
  by_cases hb : b = L
  · subst hb; rw [lessL_out] at e; cases e
  · exact (lessL_ne hb) ▸ e
section
variable {w : World} {A : Around} {hp h h' h₀ hz : Heap} {g : Array GenState} {d : Drawn} {t n n2 : Nat} {os : OsState} {sl L W D : Addr} {vs : List Value} {script : List Int} {first : Int} {m cm : Str → Option Value} {u u' u1 u2 u3 u4 u5 u6 ur : Tok} {chars : Array UInt8} {t1 : Tok} {p : EngP} {e : Addr} {big : Bool} {od : Obj} {k N : Nat} {ys zs : Array Value} {nS news : List (Addr × Obj)} {cs : List (Str × Addr)}
theorem WkT.oldNe (F : WkT h₀ L cs hz h m cm news) {b : Addr} {o : Obj} (e : h₀.get? b = some o) : b ≠ L := Nat.ne_of_lt (Nat.lt_of_lt_of_le (Heap.lt_size e) F.F.above)
theorem WkT.ofLess (F : WkT h₀ L cs hz h m cm news) (k : (lessL h L).StaysIn h') (ns : h'.Ns L m) : WkT h₀ L cs h' h' m cm news := by
  have kk : ∀ b o, b ≠ L → h.get? b = some o → h'.get? b = some o := fun b o hb e => k b o ((lessL_ne hb).trans e)
  refine ⟨⟨ns, fun b o e => kk b o (F.oldNe e) (F.F.keep b o e), F.F.above⟩, fun p q => ⟨kk _ _ (F.N p q).2.2.2.1 (F.N p q).1, (F.N p q).2⟩, fun _ _ _ _ e => e, ⟨fun n c e => ?_, F.C.apart, F.C.above⟩, F.D, F.T.keeps (fun b q o e => kk b o (fun r => F.LT (r ▸ q)) e), F.S, F.LT, F.CT⟩
  obtain ⟨o, ho, hd⟩ := F.C.cell n c e
  exact ⟨o, kk c o (fun r => Nat.lt_irrefl _ (r ▸ F.C.above n c (mem_of_lookup e))) ho, hd⟩
theorem less_top (F : WkT h₀ L cs hz h m cm news) (X : Top w h₀) : Top w (lessL h L) := fun a o e => (lessL_ne (F.oldNe (X a o e))).trans (F.top X a o e)
theorem less_frames (F : WkT h₀ L cs hz h m cm news) : h.FunFrames (lessL h L) [LEnv L] := by
  obtain ⟨o, es, ep, ho, hd, _⟩ := F.F.ns
  exact ⟨(show ScopeKind.function ≠ ScopeKind.module by decide), ⟨L, o, rfl, lessL_out h L, ho, fun vs q => by rw [hd] at q; cases q⟩, trivial⟩
theorem bound_e {f : Addr} {name : Str} {expr : Bool} {E : Value → Shared → Prop} {Q : Value → Shared → Prop} (X : Top w h) (H : Eng h p e chars big) (hf : findObj (K1 w.params) 294 (some (engDict p chars big)) name = some (.bind (.builtin "function.__get__") (.ref f))) (ht : typeIn (K1 w.params) (.ref f) = some (.type "function"))
    (q : ∀ h' t' q, Keeps h h' → h'.get? q = some (methodObj (.ref f) (.ref e)) → h.get? q = none → Q (.ref q) ⟨h', g, d, t', os⟩) :
    wpAny (model pg w) A (getAttr (.ref e) name expr) Q E ⟨h, g, d, t, os⟩ :=
  get_bind (s := ⟨h, g, d, t, os⟩) X H.inst (e_ga _) hf (e_gn _)
    (wpAny_call (fn_get (s := ⟨h, g, d, t + 1, os⟩) X ht (handed_on rfl (q _ _ _ (fun b o e => Heap.get?_push_of_some _ e) (Heap.get?_push_size _ rfl) (get_size h)))))
theorem seg_m {g : BG} {Q : Value → Shared → Prop} (hA : AOk A 47) (hfr : A.frames = some [LEnv L]) (X : Top w (strike hp)) (C : Chs chars) (tab : EngTab chars od)
    (F : WkT (strike hp) L (LCs L) h h m cm (engNews p e chars big od)) (m1 : m "first" = some (.int first u)) (m2 : m "engine" = some (.ref e)) (c2 : cm "signs" = some (.str (strL (natsOf chars)) u'))
    (hQ : ∀ h' (g' : BG) t', KeepsG hp h' → TabOk h' → Q (.bool true) ⟨h', g', d, t', os⟩) :
    wpAny (model pg w) A (execs (B322 32) (LEnv L)) (RetQ Q) (fun _ _ => False) ⟨h, g, d, t, os⟩ := by
  have hns : (natsOf chars).length = 64 := by unfold natsOf; rw [List.length_map, Array.length_toList, C.size]
  refine s_cons ?_
  repeat tb_rel
  refine i_mod (by decide) ?_
  intro _ _
  obtain ⟨nl, hnl, hn1, hnz⟩ : ∃ nl : Nat, (1 : Int) + first.fmod 3 * 4 = (nl : Int) ∧ nl % 4 = 1 ∧ nl ≤ 9 := by
    rw [Int.fmod_eq_emod_of_nonneg _ (by decide)]
    exact ⟨(1 + first % 3 * 4).toNat, by omega, by omega, by omega⟩
  repeat tb_rel
  refine i_mul (by rw [Int.fmod_eq_emod_of_nonneg _ (by decide)]; omega) (by decide) ?_
  intro _ _
  repeat tb_rel
  rw [hnl]
  refine tl_S (kk := nl) (by omega) (by rw [hns, if_neg (by omega)]; omega) (by omega) ?_ (by intro _; with_unfolding_all rfl) (by intro _; with_unfolding_all rfl)
  lcg_src
  have hll : ((natsOf chars).take nl).length = nl := by rw [List.length_take, hns]; omega
  have hlt : ∀ c ∈ (natsOf chars).take nl, c < 128 := fun c hc => asc_chars C c (by simpa [strL] using List.mem_of_mem_take hc)
  generalize (natsOf chars).take nl = ll at hll hlt
  repeat ((fail_if_success (with_reducible refine at_cons ?_)); tb_rel)
  refine s_cons ?_
  repeat tb_rel
  refine BoolOp_and ?_
  repeat tb_rel
  refine bound_e (f := 142) (F.top X) (eng_of F tab C.size fun _ q => q).out (by kernel_rfl) (by kernel_rfl) ?_
  intro h2 t2 q2 k2 hq nq
  replace F := F.add k2 hq nq
  clear k2 hq nq
  repeat tb_rel
  refine MethodCall_ ?_ (by rfl)
  repeat tb_rel
  refine gm_encode ?_
  repeat tb_rel
  refine enc_ascii (fun c hc => hlt c (by simpa [strL] using hc)) (by rw [show (strL ll).cps.size = ll.length by simp [strL]]; omega) ?_
  intro _ _
  have hbs : (bytesOf (strL ll)).size = nl := by unfold bytesOf; simp [strL, hll]
  repeat tb_rel
  have X₀ := less_top F X
  refine refuse_ok (base := lessL h2 L) (hA.less (by omega)) hfr (lessL_stays _ _) (less_frames F) X₀ ((lessL_ne (F.own (List.mem_cons_self ..)).2.2.1).trans (F.get (List.mem_cons_self ..))) (by kernel_rfl) ?_ ?_
  · intro A' outer' hp' t' hA' hfr' kb' hout'
    exact dec_raises (by rw [hbs]; exact hn1) (by rw [hbs]; omega) (hA'.less (by omega)) hfr' kb' hout' (Frag.In.keeps X₀ kb')
  intro h3 t3 kb3 up3
  replace F := (F.ofLess kb3 (up3.ns F.F.ns)).fewer (news' := engNews p e chars big od) fun x q => List.mem_cons_of_mem _ q
  clear kb3 up3 X₀
  repeat tb_rel
  rw [if_pos rfl]
  refine BoolOp_one ?_
  repeat tb_rel
  refine bound_e (f := 186) (F.top X) (eng_of F tab C.size fun _ q => q).out (by kernel_rfl) (by kernel_rfl) ?_
  intro h4 t4 q4 k4 hq nq
  replace F := F.add k4 hq nq
  clear k4 hq nq
  repeat tb_rel
  have X₀ := less_top F X
  refine refuse_ok (base := lessL h4 L) (hA.less (by omega)) hfr (lessL_stays _ _) (less_frames F) X₀ ((lessL_ne (F.own (List.mem_cons_self ..)).2.2.1).trans (F.get (List.mem_cons_self ..))) (by kernel_rfl) ?_ ?_
  · intro A' outer' hp' t' hA' hfr' kb' hout'
    exact chk_raises (by rw [hll]; exact hn1) (by rw [hll]; omega) (hA'.less (by omega)) hfr' kb' hout' (Frag.In.keeps X₀ kb')
  intro h5 t5 kb5 up5
  replace F := F.ofLess kb5 (up5.ns F.F.ns)
  exact hQ _ _ _ F.oldG F.T
end
end
section
section
variable {w : World} {E : Value → Shared → Prop} {Q : Value → Shared → Prop} {hp h : Heap} {g : Array GenState} {d : Drawn} {t : Nat} {os : OsState} {sl : Addr} {vs : List Value} {script : List Int}
theorem law_ok {g : BG} (hn : script.length ≤ 63) (X : Top w hp) (T : TabOk hp) (hL : hp.IsList sl vs.toArray) (hi : IntsAre vs script) (hQ : ∀ h' (g' : BG) t', KeepsG hp h' → TabOk h' → Q (.bool true) ⟨h', g', d, t', os⟩) :
    wpAny (model pg w) callerA (call (.ref 322) [.ref sl]) Q E ⟨hp, g, d, t, os⟩ := by
  refine wpAny_call (call_fnC (n := 47) (binds := [("script", .ref sl)]) ok_callerA X T fn322 (by rfl) (by rfl) (by rfl) (by decide) (by rfl) ?_)
  intro h₁ t₁ L F hA'
  have hL0 : (strike hp).IsList sl vs.toArray := by obtain ⟨o, ho, r⟩ := hL; exact ⟨o, (strike_in (list_out T ⟨o, ho, r⟩)).trans ho, r⟩
  replace X := X.strike
  have hLz : vs.toArray.size ≤ 1000000 := by rw [List.size_toArray, hi.length]; omega
  refine s_join (fun s' => ∃ h' t' m u, s' = ⟨h', g, d, t', os⟩ ∧ WkT (strike hp) L (cellsFrom (L + 1) fd322S.1.scope.names []) h' h' m (bindC (callEnvC fd322S.1 L 322).kindOf [("script", .ref sl)] fun _ => none) [] ∧ m "first" = some (.int (script.headD 0) u)) ?_ ?_
  · repeat tb_rel
    have hLh := hL0
    obtain ⟨oS, hoS, rS⟩ := hLh
    refine t_list ⟨oS, F.old _ _ hoS, rS⟩ hLz ?_
    intro _
    cases script with
    | nil =>
      cases hi
      refine brE_f ?_
      repeat tb_rel
      exact ⟨rfl, _, _, _, _, rfl, F.mark, by with_unfolding_all rfl⟩
    | cons x r =>
      obtain ⟨u, hu⟩ := ints_at hi 0 (by simp)
      have hne : (!vs.toArray.isEmpty) = true := by cases vs with | nil => simp at hu | cons a l => rfl
      rw [hne]
      refine brE_t ?_
      repeat tb_rel
      refine tl_li (x := .int x u) ⟨oS, F.old _ _ hoS, rS⟩ (by decide) (by decide) (by simpa using hu) ?_ (by with_unfolding_all rfl) (by intro _; with_unfolding_all rfl)
      repeat tb_rel
      exact ⟨rfl, _, _, _, _, rfl, F.mark, by with_unfolding_all rfl⟩
  · rintro s' ⟨h, t, m, u, rfl, F, m1⟩
    obtain ⟨tH, eH⟩ := hash_is
    repeat tb_rel
    refine nG gl_hash (F.top X) ?_ (by rfl) (by rfl) (by rfl) (by rfl) (by decide)
    rw [eH]
    repeat tb_rel
    refine list_str hA'.hd (by rw [hash_len]; decide) ?_
    intro h2 t2 Dp ys k2 nDp hDp hys hyf
    obtain ⟨nP, hoP⟩ := hDp
    replace F := F.add k2 hoP nDp
    clear k2
    repeat ((fail_if_success (with_reducible refine at_for ?_)); tb_rel)
    have hhl : hashL.length = 64 := hash_len
    replace F := F.mark
    refine seg_a hA' hn hi X hL0 F.mark (by with_unfolding_all assumption) (by with_unfolding_all rfl) (by with_unfolding_all rfl) ⟨rfl, _, rfl⟩ ⟨by rw [hys]; exact hhl, fun i hi => hyf i (by rw [hhl]; exact hi)⟩ hash_good ?_
    intro h g t m cm chars u u' F C CR m1 c1 c2
    have hfr : (callerA.deeper (callEnvC fd322S.1 L 322)).frames = some [LEnv L] := rfl
    generalize callerA.deeper (callEnvC fd322S.1 L 322) = A at hA' hfr ⊢
    refine seg_b hA' X C F m1 c1 c2 ?_
    intro h g t m cm p e od u u' u2 F tab m1 m2 m3 c1 c2 c3
    obtain ⟨_, k1, k6⟩ := kOf_is (script.headD 0)
    refine seg_c hA' hn hi X hL0 k1 k6 F m1 m2 m3 c1 c2 c3 ?_
    intro h g t m cm u u' u2 u3 u4 u5 F m1 m2 m3 c1 c2 c3 m4 c4 m5
    refine seg_d hA' X k1 k6 C tab F m1 m2 m3 c1 c2 c3 m4 c4 m5 ?_
    intro h g t m cm u u' u2 u3 u4 u5 u6 W F m1 m2 m3 c1 c2 c3 m4 c4 m5 c5 m6
    refine seg_e hA' X k1 k6 C tab F m1 m2 m3 c1 c2 c3 m4 c4 m5 c5 m6 ?_
    intro h g t m cm ys n F S m1 m2 m3 c1 c2 c3 m4 m5 m6
    refine seg_f hA' hi X hL0 k1 k6 C tab F S m1 m2 c1 c2 c3 m4 m5 m6 ?_
    intro h g t m cm zs n2 D nS F SPS m1 m2 c2 c3 m4 m5 m6 m7
    refine seg_g hA' X k1 k6 C CR F SPS S m1 m2 c2 c3 m4 m5 m6 m7 ?_
    intro h g t m cm F m1 m2 c2 c3 m4 m5 m6 m7
    refine seg_h hA' X k1 k6 C tab F SPS S m1 m2 c2 c3 m4 m5 m6 m7 ?_
    intro h g t m cm ur F m1 m2 c2 c3 m4 m8
    refine seg_i hA' X k1 k6 F m1 m2 c2 c3 m4 m8 ?_
    intro h g t m cm F m1 m2 c2 c3 m4
    refine seg_j hA' X C tab F m1 m2 c2 c3 m4 ?_
    intro h g t m cm N u1 u2 u3 u4 hN F m1 m2 c2 c3 m5 m6 m7 m8
    refine seg_k hA' X C tab hN F m1 m2 c2 c3 m5 m6 m7 m8 ?_
    intro h g t m cm F m1 m2 c2 c3 m5
    refine seg_l hA' X C tab F m1 m2 c2 c3 m5 ?_
    intro h g t m cm F m1 m2 c2
    exact seg_m hA' hfr X C tab F m1 m2 c2 hQ
end
end
end
theorem bare_empty : Bare #[] := fun y hy => by simp at hy
end Mine
open Mine
set_option maxHeartbeats 8000000 in
theorem PySem.Challenge.cw_br5025_01_holds : PySem.Challenge.rw_br5025_01.Holds := by
  refine Mine.hd ?_
  k_fill
  intro w s₀ s₁ mg mb G Y fa o pm cd doc dV kV ho hd hcd hD hmg hg args vals as hpre hlay hrd hwl hlo
  have KX := kIn_of Y
  have X := (Ground.X G).1
  have V := (Ground.X G).2
  refine Ground.open G ?_
  intro T B D TE TW
  wrow_args hpre hlay hrd hwl hlo
  x_fa T KX hmg
  all_goals (try all_lens)
  clear hmg X V T B D TE TW
  all_goals (clear G Y hD hcd ho; try clear TA)
  obtain ⟨h1, g1, d1, t1, os1⟩ := s₁
  dsimp only at hg KX
  subst hg
  refine law_ok (g := ⟨#[], bare_empty⟩) (script := ?scr) (vs := ?vsv) ?hn (top_head KX) (tab_head KX) ?hL ?hi ?_
  case hL => assumption
  case hi => assumption
  case hn => omega
  intro h' g' t' k T'
  refine ⟨.inl ⟨_, _, [], rfl, fun _ => rfl, ReadsW.bool true, ?_, fun _ => ⟨List.nodup_nil, fun _ hm => (nomatch hm)⟩⟩, oldk KX k T', rfl, g'.2⟩
  first | rfl | wrow_post
