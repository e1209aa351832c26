import PyProof.Rows.All
import Wide.All
import OpenK.AllK
import Wide.FinOn
import Lean
import PySem.Challenge.RW_pg0143_01
open PySem PySem.W PyProof.Rows
set_option Elab.async false
set_option maxRecDepth 100000
set_option maxHeartbeats 8000000
set_option linter.unusedVariables false

section
open PySem PySem.W PyProof.Rows
namespace Mine
open_top hd1 for PySem.Challenge.rw_pg0143_01
end Mine
end
section
open PySem PySem.W PyProof.Rows PySem.Calls
namespace Mine

/-- only the heap and the tokens turn; what lies off X stays -/
noncomputable def Up (X : Addr → Prop) (s s' : Shared) : Prop :=
  (∃ h tk, s' = { s with heap := h, toks := tk }) ∧ (∀ b o, ¬ X b → s.heap.get? b = some o → s'.heap.get? b = some o) ∧ s.toks ≤ s'.toks
abbrev Kp (s s' : Shared) : Prop := Up (fun _ => False) s s'

theorem Up.refl (X) (s : Shared) : Up X s s := ⟨⟨s.heap, s.toks, rfl⟩, fun _ _ _ e => e, Nat.le_refl _⟩
theorem Up.trans {X} {s s' s'' : Shared} (a : Up X s s') (b : Up X s' s'') : Up X s s'' := by
  obtain ⟨⟨h, tk, rfl⟩, a2, a3⟩ := a
  obtain ⟨⟨h', tk', rfl⟩, b2, b3⟩ := b
  exact ⟨⟨h', tk', rfl⟩, fun x o hx e => b2 x o hx (a2 x o hx e), Nat.le_trans a3 b3⟩
theorem Up.mono {X Y : Addr → Prop} {s s' : Shared} (a : Up X s s') (h : ∀ b, X b → Y b) : Up Y s s' :=
  ⟨a.1, fun b o hb e => a.2.1 b o (fun x => hb (h b x)) e, a.2.2⟩
theorem Up.of {X} {s s' : Shared} (a : Kp s s') : Up X s s' := a.mono fun _ f => f.elim
theorem Kp.rfl' {s : Shared} : Kp s s := Up.refl _ s
theorem Kp.keep {s s' : Shared} (a : Kp s s') (b : Addr) (o : Obj) (e : s.heap.get? b = some o) : s'.heap.get? b = some o := a.2.1 b o id e
theorem Kp.tok {s : Shared} {k : Nat} (h : s.toks ≤ k) : Kp s { s with toks := k } := ⟨⟨_, _, rfl⟩, fun _ _ _ e => e, h⟩
theorem Kp.heap {s : Shared} {h : Heap} {k : Nat} (hk : s.toks ≤ k) (hh : ∀ b o, s.heap.get? b = some o → h.get? b = some o) : Kp s { s with heap := h, toks := k } :=
  ⟨⟨_, _, rfl⟩, fun b o _ e => hh b o e, hk⟩
theorem Kp.push {s : Shared} (o : Obj) : Kp s { s with heap := s.heap.push o } := ⟨⟨_, _, rfl⟩, fun _ _ _ e => Heap.get?_push_of_some o e, Nat.le_refl _⟩
theorem Kp.of {s s' : Shared} (a : Keeps s s') (t : s.toks ≤ s'.toks) : Kp s s' := by
  obtain ⟨h, tk, rfl, k⟩ := a
  exact ⟨⟨h, tk, rfl⟩, fun b o _ e => k b o e, t⟩
theorem Kp.keeps {s s' : Shared} (a : Kp s s') : Keeps s s' := by
  obtain ⟨⟨h, tk, rfl⟩, k, _⟩ := a
  exact ⟨h, tk, rfl, fun b o e => k b o id e⟩

section
variable {α β : Type} {prog : Program} {w : World} {A : Around} {E : Value → Shared → Prop} {s : Shared}

/-- ends, gives back what V says, leaves all that stood -/
noncomputable def Qt (prog : Program) (w : World) (A : Around) (t : Sem α) (V : α → Shared → Prop) (s : Shared) : Prop :=
  wpAny (model prog w) A t (fun v s' => V v s' ∧ Kp s s') (fun _ _ => False) s

theorem Qt.then {t : Sem α} {V Q : α → Shared → Prop} (h : Qt prog w A t V s) (k : ∀ v s', V v s' → Kp s s' → Q v s') : wpAny (model prog w) A t Q E s :=
  wpAny_mono h (fun v s' x => k v s' x.1 x.2) fun _ _ f => f.elim
theorem Qt.mk {t : Sem α} {V : α → Shared → Prop} (h : wpAny (model prog w) A t (fun v s' => V v s' ∧ Keeps s s') (fun _ _ => False) s) : Qt prog w A t V s :=
  wpAny_mono (wpAny_toks_of (Nat.le_refl _) h) (fun v s' x => ⟨x.2.1, Kp.of x.2.2 x.1⟩) fun _ _ f => f.2
theorem Qt.mono {t : Sem α} {V V' : α → Shared → Prop} (h : Qt prog w A t V s) (k : ∀ v s', V v s' → Kp s s' → V' v s') : Qt prog w A t V' s :=
  h.then fun v s' a b => ⟨k v s' a b, b⟩
/-- from a state below -/
theorem Qt.from {t : Sem α} {V : α → Shared → Prop} {s₀ : Shared} (h : Qt prog w A t V s) (k : Kp s₀ s) : wpAny (model prog w) A t (fun v s' => V v s' ∧ Kp s₀ s') (fun _ _ => False) s :=
  h.then fun _ _ a b => ⟨a, k.trans b⟩
end

/-- a list's items -/
noncomputable def IsL (s : Shared) (v : Value) (vs : List Value) : Prop := ∃ a, v = .ref a ∧ s.heap.IsList a vs.toArray
noncomputable def IsT (s : Shared) (v : Value) (vs : List Value) : Prop := ∃ a, v = .ref a ∧ s.heap.IsTuple a vs.toArray

/-- inside a call of a def: its locals, its cells -/
structure Fs (s₀ : Shared) (L : Addr) (m : Str → Option Value) (cs : List (Str × Addr)) (cm : Str → Option Value) (s : Shared) : Prop where
  inC : InCallC s₀ L m cs cm s
  tk₀ : s₀.toks ≤ s.toks

/-- one name's value anew -/
noncomputable def Upd (m : Str → Option Value) (n : Str) (v : Value) : Str → Option Value := fun y => if y = n then some v else m y
theorem Upd.hit {m : Str → Option Value} {n : Str} {v : Value} : Upd m n v n = some v := by simp [Upd]
theorem Upd.miss {m : Str → Option Value} {n k : Str} {v : Value} {r : Option Value} (h : (k == n) = false) (e : m k = r) : Upd m n v k = r := by
  have : k ≠ n := fun e => by subst e; simp at h
  simpa [Upd, this] using e

noncomputable def Mx (L : Addr) (cs : List (Str × Addr)) (b : Addr) : Prop := b = L ∨ ∃ n, cs.lookup n = some b

section
variable {s₀ s s' : Shared} {L : Addr} {m cm : Str → Option Value} {cs : List (Str × Addr)}
theorem Fs.k (F : Fs s₀ L m cs cm s) (k : Kp s s') : Fs s₀ L m cs cm s' := by
  obtain ⟨⟨⟨⟨h, tk, rfl⟩, ns, kp, fr⟩, cell, ap, ab⟩, tk0⟩ := F
  have hk := k.keep
  obtain ⟨⟨h', tk', rfl⟩, _, t⟩ := k
  exact ⟨⟨⟨⟨h', tk', rfl⟩, ns.keeps hk, fun b o e => hk b o (kp b o e), fr⟩, fun n c e => (cell n c e).keeps hk, ap, ab⟩, Nat.le_trans tk0 t⟩
theorem Fs.base (F : Fs s₀ L m cs cm s) : Kp s₀ s := by
  obtain ⟨h, tk, rfl⟩ := F.inC.toInCall.same
  exact ⟨⟨h, tk, rfl⟩, fun b o _ e => F.inC.toInCall.keep b o e, F.tk₀⟩
theorem Fs.off (F : Fs s₀ L m cs cm s) {b : Addr} {o : Obj} (e : s.heap.get? b = some o) (h1 : ∀ es ep, o.data ≠ .dict es ep) (h2 : ∀ v, o.data ≠ .cell v) : ¬ Mx L cs b := by
  rintro (rfl | ⟨n, hn⟩)
  · obtain ⟨o', es, ep, ho, hd, _⟩ := F.inC.toInCall.ns
    rw [e] at ho; cases ho; exact h1 _ _ hd
  · obtain ⟨o', ho, hd⟩ := F.inC.cell n b hn
    rw [e] at ho; cases ho; exact h2 _ hd
theorem Fs.off₀ (F : Fs s₀ L m cs cm s) {b : Addr} {o : Obj} (e : s₀.heap.get? b = some o) : ¬ Mx L cs b := by
  have hb := Nat.lt_of_lt_of_le (Heap.lt_size e) F.inC.toInCall.fresh
  rintro (rfl | ⟨n, hn⟩)
  · exact Nat.lt_irrefl _ hb
  · exact Nat.lt_irrefl _ (Nat.lt_trans hb (F.inC.above n b (mem_of_lookup hn)))
theorem IsL.k {v vs} (x : IsL s v vs) (k : Kp s s') : IsL s' v vs := let ⟨a, e, l⟩ := x; ⟨a, e, l.at fun o ho => k.keep a o ho⟩
theorem IsT.k {v vs} (x : IsT s v vs) (k : Kp s s') : IsT s' v vs := let ⟨a, e, o, ho, r⟩ := x; ⟨a, e, o, k.keep a o ho, r⟩
theorem IsL.up {v vs} (x : IsL s v vs) (F : Fs s₀ L m cs cm s) (u : Up (Mx L cs) s s') : IsL s' v vs := by
  obtain ⟨a, e, o, ho, hc, n, hd⟩ := x
  exact ⟨a, e, o, u.2.1 a o (F.off ho (by rw [hd]; intro _ _ q; cases q) (by rw [hd]; intro _ q; cases q)) ho, hc, n, hd⟩
theorem IsT.up {v vs} (x : IsT s v vs) (F : Fs s₀ L m cs cm s) (u : Up (Mx L cs) s s') : IsT s' v vs := by
  obtain ⟨a, e, o, ho, hc, n, hd⟩ := x
  exact ⟨a, e, o, u.2.1 a o (F.off ho (by rw [hd]; intro _ _ q; cases q) (by rw [hd]; intro _ q; cases q)) ho, hc, n, hd⟩
end

section
variable {prog : Program} {w : World} {A : Around} {E : Value → Shared → Prop} {s₀ s : Shared} {m cm : Str → Option Value} {env : Env} {n : Str} {v : Value}

theorem nmL {pos : Pos} {Q : Value → Shared → Prop} (F : Fs s₀ env.locals m env.cells cm s) (hv : m n = some v) (h : Q v s)
    (hk : env.scope.kind = .function := by rfl) (hl : env.kindOf n = some .local := by rfl) (hd : (n == ("__debug__" : Str)) = false := by decide) :
    wpAny (model prog w) A (eval (.Name n pos) env) Q E s := NameLC F.inC hk hl hv h hd
theorem nmC {pos : Pos} {c : Addr} {Q : Value → Shared → Prop} (F : Fs s₀ env.locals m env.cells cm s) (hc : env.cells.lookup n = some c) (hv : cm n = some v) (h : Q v s)
    (hk : env.scope.kind = .function := by rfl) (hl : env.kindOf n = some .cell := by rfl) (hd : (n == ("__debug__" : Str)) = false := by decide) :
    wpAny (model prog w) A (eval (.Name n pos) env) Q E s := NameCC F.inC hk hl hc hv h hd
theorem nmG {pos : Pos} {mg : Str → Option Value} {Q : Value → Shared → Prop} (hg : s.heap.Ns env.globals mg) (hv : mg n = some v) (h : Q v s)
    (hk : env.scope.kind = .function := by rfl) (hl : env.kindOf n = some .globalImplicit := by rfl) (hd : (n == ("__debug__" : Str)) = false := by decide) :
    wpAny (model prog w) A (eval (.Name n pos) env) Q E s := Name_function_global hk hl (loadGlobal_global hg hv h) hd
theorem nmB {pos : Pos} {mg mb : Str → Option Value} {Q : Value → Shared → Prop} (hg : s.heap.Ns env.globals mg) (hm : mg n = none) (hb : s.heap.Ns env.builtins mb) (hv : mb n = some v) (h : Q v s)
    (hk : env.scope.kind = .function := by rfl) (hl : env.kindOf n = some .globalImplicit := by rfl) (hd : (n == ("__debug__" : Str)) = false := by decide) :
    wpAny (model prog w) A (eval (.Name n pos) env) Q E s := Name_function_global hk hl (loadGlobal_builtin hg hm hb hv h) hd

theorem stL {Q : Unit → Shared → Prop} (F : Fs s₀ env.locals m env.cells cm s)
    (h : ∀ s', Fs s₀ env.locals (Upd m n v) env.cells cm s' → Up (Mx env.locals env.cells) s s' → Q () s')
    (hk : env.scope.kind = .function := by rfl) (hl : env.kindOf n = some .local := by rfl) : wpAny (model prog w) A (storeName env n v) Q E s := by
  have x := F.inC
  refine wpAny_storeName_local hl x.toInCall.ns (fun h' hn' hs' => h _ ⟨⟨⟨?_, hn', fun b o e => ?_, x.toInCall.fresh⟩, fun k c hc => ?_, x.apart, x.above⟩, ?_⟩ ⟨⟨_, _, rfl⟩, ?_, ?_⟩) (by rw [hk]; rfl)
  · obtain ⟨h₁, tk, rfl⟩ := x.toInCall.same
    exact ⟨h', _, rfl⟩
  · exact hs'.extBut b o (Nat.ne_of_lt (Nat.lt_of_lt_of_le (Heap.lt_size e) x.toInCall.fresh)) (x.toInCall.keep b o e)
  · exact (x.cell k c hc).sameBut hs' (Nat.ne_of_gt (x.above k c (mem_of_lookup hc)))
  · exact Nat.le_succ_of_le F.tk₀
  · intro b o hb e
    exact hs'.extBut b o (fun q => hb (.inl q)) e
  · exact Nat.le_succ _
theorem stC {c : Addr} {Q : Unit → Shared → Prop} (F : Fs s₀ env.locals m env.cells cm s) (hc : env.cells.lookup n = some c)
    (h : ∀ s', Fs s₀ env.locals m env.cells (Upd cm n v) s' → Up (Mx env.locals env.cells) s s' → Q () s')
    (hk : env.scope.kind = .function := by rfl) (hl : env.kindOf n = some .cell := by rfl) : wpAny (model prog w) A (storeName env n v) Q E s := by
  have x := F.inC
  have hLc := x.above n c (mem_of_lookup hc)
  refine wpAny_storeName_cell hk hl hc (x.cell n c hc) fun h' hc' hs' => h _ ⟨⟨⟨?_, x.toInCall.ns.sameBut hs' (Nat.ne_of_lt hLc), fun b o e => ?_, x.toInCall.fresh⟩, fun k c' hk' => ?_, x.apart, x.above⟩, F.tk₀⟩ ⟨⟨_, _, rfl⟩, ?_, Nat.le_refl _⟩
  · obtain ⟨h₁, tk, rfl⟩ := x.toInCall.same
    exact ⟨h', _, rfl⟩
  · exact hs'.extBut b o (Nat.ne_of_lt (Nat.lt_trans (Nat.lt_of_lt_of_le (Heap.lt_size e) x.toInCall.fresh) hLc)) (x.toInCall.keep b o e)
  · by_cases hkn : k = n
    · subst hkn
      rw [hc] at hk'; cases hk'
      rw [Upd.hit]; exact hc'
    · rw [Upd.miss (r := cm k) (by simpa using hkn) rfl]
      exact (x.cell k c' hk').sameBut hs' fun e => hkn (name_of_addr x.apart (mem_of_lookup hk') (e ▸ mem_of_lookup hc))
  · intro b o hb e
    exact hs'.extBut b o (fun q => hb (.inr ⟨n, q ▸ hc⟩)) e
end

/-- what a call of a def leaves to its caller -/
noncomputable def Ok (A : Around) (d : Nat) : Prop := A.handled = none ∧ A.depth + d < recursionLimit ∧ A.units + 8 * d + 8 < cLine
theorem Ok.deeper {A : Around} {d : Nat} {env : Env} (h : Ok A (d + 1)) : Ok (A.deeper env) d := by
  obtain ⟨h1, h2, h3⟩ := h
  refine ⟨h1, ?_, ?_⟩
  · show A.depth + 1 + d < _; omega
  · show A.units + 3 + 8 * d + 8 < _; omega
theorem Ok.room {A : Around} {d : Nat} (h : Ok A d) : A.depth < recursionLimit := by have := h.2.1; omega
theorem Ok.units {A : Around} {d : Nat} (h : Ok A d) : A.units < cLine := by have := h.2.2; omega

section
variable {prog : Program} {w : World} {A : Around} {s : Shared}
/-- a call of a def without cells -/
theorem fn_rule {f : Addr} {o : Obj} {fd : FuncData} {body : List Stmt} {vals : List Value} {binds : List (Str × Value)} {V : Value → Shared → Prop} {d : Nat}
    (hA : Ok A d) (ho : s.heap.get? f = some o) (hdata : o.data = .func fd) (hlim : s.heap.NoLimit) (hcd : s.heap.CodeRec fd.code fd.qualname)
    (hbody : fd.body = .stmts body) (hbind : bindArgs fd ⟨vals, []⟩ = pure binds) (hclo : fd.closure = [])
    (hcell : ∀ x ∈ fd.scope.names, x.2 ≠ .cell) (hloc : ∀ x ∈ binds, fd.scope.names.lookup x.1 = some .local)
    (h : ∀ L s₁, Fs s (callEnv fd L f).locals (fun x => binds.reverse.lookup x) (callEnv fd L f).cells (fun _ => none) s₁ → s.toks + binds.length ≤ s₁.toks →
      wpAny (model prog w) (A.deeper (callEnv fd L f)) (execs body (callEnv fd L f)) (fun fl s' => V (match fl with | .ret v => v | _ => .none) s' ∧ Kp s s') (fun _ _ => False) s₁)
    (hco : fd.scope.isCoroutine = false := by rfl) (hgen : fd.scope.isGenerator = false := by rfl) (hk : fd.scope.kind = .function := by rfl) :
    Qt prog w A (call (.ref f) vals) V s := by
  refine wpAny_call (codeAny_call_def hA.room ho hdata hlim hcd hbody (BindsTo.of_eq hbind) hcell hloc (fun h₀ hn hk₀ => ?_) hco hgen hk)
  refine wpAny_mono (h s.heap.objs.size _ ⟨⟨⟨⟨h₀, _, rfl⟩, hn, hk₀, Nat.le_refl _⟩, ?_, ?_, ?_⟩, Nat.le_add_right _ _⟩ (Nat.le_refl _)) (fun _ _ x => x) fun _ _ f => f.elim
  · intro n c hc
    have e : (callEnv fd s.heap.objs.size f).cells = [] := hclo
    rw [e] at hc; cases hc
  · have e : (callEnv fd s.heap.objs.size f).cells = [] := hclo
    rw [e]; exact .nil
  · intro n c hc
    have e : (callEnv fd s.heap.objs.size f).cells = [] := hclo
    rw [e] at hc; cases hc
/-- a call of a def with cells -/
theorem fn_ruleC {f : Addr} {o : Obj} {fd : FuncData} {body : List Stmt} {vals : List Value} {binds : List (Str × Value)} {V : Value → Shared → Prop} {d : Nat}
    (hA : Ok A d) (ho : s.heap.get? f = some o) (hdata : o.data = .func fd) (hlim : s.heap.NoLimit) (hcd : s.heap.CodeRec fd.code fd.qualname)
    (hbody : fd.body = .stmts body) (hbind : bindArgs fd ⟨vals, []⟩ = pure binds) (hclo : fd.closure = [])
    (hkind : ∀ n, ∀ x ∈ binds, fd.scope.names.lookup x.1 = some .local ∨ (fd.scope.names.lookup x.1 = some .cell ∧ ((cellsFrom n fd.scope.names []).lookup x.1).isSome = true))
    (h : ∀ L s₁, Fs s (callEnvC fd L f).locals (bindL (callEnvC fd L f).kindOf binds fun _ => none) (callEnvC fd L f).cells (bindC (callEnvC fd L f).kindOf binds fun _ => none) s₁ →
      wpAny (model prog w) (A.deeper (callEnvC fd L f)) (execs body (callEnvC fd L f)) (fun fl s' => V (match fl with | .ret v => v | _ => .none) s' ∧ Kp s s') (fun _ _ => False) s₁)
    (hco : fd.scope.isCoroutine = false := by rfl) (hgen : fd.scope.isGenerator = false := by rfl) (hk : fd.scope.kind = .function := by rfl) :
    Qt prog w A (call (.ref f) vals) V s := by
  refine wpAny_call (codeAny_call_function hA.room ho hdata hco hgen hbody hcd ?_)
  rw [hbind, hclo]
  refine wpAny_pure (wpAny_with_toks (n := s.toks) (Nat.le_refl _) (wpAny_newFunctionEnv_cells hk (hkind _) fun env he s' x ht => ?_))
  subst he
  exact ⟨hlim.keeps x.toInCall.keep, codeAny_func (wpAny_mono (h _ s' ⟨x, ht⟩) (fun _ _ x => x) fun _ _ f => f.elim)⟩
end
end Mine
end
section
open PySem PySem.W PyProof.Rows PySem.Calls
namespace Mine

/-- a text of its signs' numbers -/
abbrev S (l : List Nat) : Str := ⟨l.toArray⟩
theorem S_len (l : List Nat) : (S l).length = l.length := by simp [Str.length]
theorem S_toList (l : List Nat) : (S l).cps.toList = l := by simp
theorem S_app (a b : List Nat) : S a ++ S b = S (a ++ b) := Str.ext' (by rw [Str.cps_append]; simp)
theorem S_of (x : Str) : x = S x.cps.toList := Str.ext' (by simp)
theorem S_inj {a b : List Nat} (h : S a = S b) : a = b := by have := congrArg (fun x => x.cps.toList) h; simpa using this
theorem ofL {x : Str} {l : List Nat} (h : x.cps.toList = l) : x = S l := by rw [S_of x, h]

noncomputable def joinL (sep : List Nat) : List (List Nat) → List Nat
  | [] => []
  | [x] => x
  | x :: y :: r => x ++ sep ++ joinL sep (y :: r)
theorem join_S (sep : List Nat) : ∀ ps : List (List Nat), Str.join (S sep) (ps.map S) = S (joinL sep ps)
  | [] => rfl
  | [x] => rfl
  | x :: y :: r => by
    have ih := join_S sep (y :: r)
    show S x ++ S sep ++ Str.join (S sep) ((y :: r).map S) = _
    rw [ih, S_app, S_app]; rfl
theorem joinL_nil_sep : ∀ ps : List (List Nat), joinL [] ps = ps.flatten
  | [] => rfl
  | [x] => by simp [joinL]
  | x :: y :: r => by
    show x ++ [] ++ joinL [] (y :: r) = _
    rw [joinL_nil_sep (y :: r)]; simp

/-- cut at each c -/
noncomputable def splitL (c : Nat) : List Nat → List (List Nat)
  | [] => [[]]
  | d :: r => if d = c then [] :: splitL c r else match splitL c r with
    | [] => [[d]]
    | p :: q => (d :: p) :: q
theorem splitL_ne (c : Nat) : ∀ l, splitL c l ≠ []
  | [] => by simp [splitL]
  | d :: r => by
    unfold splitL
    split
    · simp
    · split <;> simp
theorem splitL_free (c : Nat) : ∀ (p : List Nat), c ∉ p → splitL c p = [p]
  | [], _ => rfl
  | d :: r, h => by
    have hd : d ≠ c := fun e => h (by simp [e])
    have hr : c ∉ r := fun e => h (by simp [e])
    unfold splitL
    rw [if_neg hd, splitL_free c r hr]
theorem splitL_app (c : Nat) (q : List Nat) : ∀ (p : List Nat), c ∉ p → splitL c (p ++ c :: q) = p :: splitL c q
  | [], _ => by simp [splitL]
  | d :: r, h => by
    have hd : d ≠ c := fun e => h (by simp [e])
    have hr : c ∉ r := fun e => h (by simp [e])
    have e : splitL c (d :: (r ++ c :: q)) = if d = c then [] :: splitL c (r ++ c :: q) else match splitL c (r ++ c :: q) with
      | [] => [[d]]
      | p :: q => (d :: p) :: q := rfl
    show splitL c (d :: (r ++ c :: q)) = _
    rw [e, if_neg hd, splitL_app c q r hr]
theorem splitL_join (c : Nat) : ∀ ps : List (List Nat), ps ≠ [] → (∀ p ∈ ps, c ∉ p) → splitL c (joinL [c] ps) = ps
  | [], h, _ => absurd rfl h
  | [p], _, h => splitL_free c p (h p (by simp))
  | p :: q :: r, _, h => by
    show splitL c (p ++ [c] ++ joinL [c] (q :: r)) = _
    rw [List.append_assoc]
    show splitL c (p ++ c :: joinL [c] (q :: r)) = _
    rw [splitL_app c _ p (h p (by simp)), splitL_join c (q :: r) (by simp) (fun x hx => h x (by simp [List.mem_cons.mp hx]))]
theorem split_S (l : List Nat) (c : Nat) : Txt.split (S l) (S [c]) = (splitL c l).map S := by
  have h1 := StrLaws.join_split (S l) (S [c])
  have h2 := StrLaws.split_free (S l) c
  generalize hp : Txt.split (S l) (S [c]) = ps at h1
  have h2' : ∀ p ∈ ps, c ∉ p.cps.toList := by rw [← hp]; exact h2
  have e : ps = (ps.map (·.cps.toList)).map S := by
    rw [List.map_map]
    conv => lhs; rw [← List.map_id ps]
    exact List.map_congr_left fun x _ => S_of x
  rw [e, join_S] at h1
  have hne : ps.map (·.cps.toList) ≠ [] := by
    intro hn
    have hps : ps = [] := by simpa using hn
    subst hps
    have : Txt.split (S l) (S [c]) ≠ [] := by
      unfold Txt.split
      split
      · simp
      · split
        · simp
        · rw [StrLaws.partsBetween_eq]
          obtain ⟨p, r, e⟩ := StrLaws.partsFrom_ne (S l) (S [c]).length 0 (Builtin.Str.occurrences (S l) (S [c]) 0 (S l).length ((S l).length + 1))
          rw [e]; simp
    exact this hp
  have h3 := S_inj h1
  rw [← h3, splitL_join c _ hne (by intro p hpm; obtain ⟨x, hx, rfl⟩ := List.mem_map.mp hpm; exact h2' x hx)]
  exact e

theorem flat_not {c : Nat} {z : List Nat} : ∀ {l : List Nat}, c ∉ l → (l.flatMap fun d => if d = c then z else [d]) = l
  | [], _ => rfl
  | d :: r, h => by
    have hd : d ≠ c := fun e => h (by simp [e])
    have hr : c ∉ r := fun e => h (by simp [e])
    rw [List.flatMap_cons, if_neg hd, flat_not hr]; rfl
theorem flat_join (c : Nat) (z : List Nat) : ∀ ps : List (List Nat), (∀ p ∈ ps, c ∉ p) → (joinL [c] ps).flatMap (fun d => if d = c then z else [d]) = joinL z ps
  | [], _ => rfl
  | [p], h => flat_not (h p (by simp))
  | p :: q :: r, h => by
    have ih := flat_join c z (q :: r) (fun x hx => h x (List.mem_cons_of_mem _ hx))
    show (p ++ [c] ++ joinL [c] (q :: r)).flatMap _ = p ++ z ++ joinL z (q :: r)
    rw [List.flatMap_append, List.flatMap_append, ih, flat_not (h p (by simp))]
    simp
theorem joinL_splitL (c : Nat) : ∀ l, joinL [c] (splitL c l) = l
  | [] => rfl
  | d :: r => by
    have ih := joinL_splitL c r
    unfold splitL
    split
    · rename_i e
      subst e
      cases hq : splitL d r with
      | nil => exact absurd hq (splitL_ne d r)
      | cons p q => rw [hq] at ih; show [] ++ [d] ++ joinL [d] (p :: q) = _; rw [ih]; rfl
    · split
      · rename_i hq; exact absurd hq (splitL_ne c r)
      · rename_i p q hq
        rw [hq] at ih
        cases q with
        | nil => show d :: p = d :: r; rw [show p = r from ih]
        | cons p' q' => show (d :: p) ++ [c] ++ joinL [c] (p' :: q') = _; rw [← ih]; rfl
theorem splitL_mem (c : Nat) : ∀ (l : List Nat), ∀ p ∈ splitL c l, c ∉ p
  | [], p, h => by simp [splitL] at h; simp [h]
  | d :: r, p, h => by
    have ih := splitL_mem c r
    unfold splitL at h
    split at h
    · rcases List.mem_cons.mp h with rfl | h
      · simp
      · exact ih p h
    · rename_i hd
      split at h
      · rename_i hq; exact absurd hq (splitL_ne c r)
      · rename_i p' q hq
        rcases List.mem_cons.mp h with rfl | h
        · intro hm
          rcases List.mem_cons.mp hm with e | hm
          · exact hd e.symm
          · exact ih p' (by rw [hq]; simp) hm
        · exact ih p (by rw [hq]; simp [h])
theorem replace_S (l : List Nat) (c : Nat) (z : List Nat) : Txt.replace (S l) (S [c]) (S z) = S (l.flatMap fun d => if d = c then z else [d]) := by
  rw [show S [c] = ⟨#[c]⟩ from rfl, StrLaws.replace_one, show (⟨#[c]⟩ : Str) = S [c] from rfl, split_S, join_S]
  conv => rhs; rw [← joinL_splitL c l]
  rw [flat_join c z _ (splitL_mem c l)]
theorem contains_S (l : List Nat) (c : Nat) : Txt.contains (S l) (S [c]) = decide (c ∈ l) := by
  have := StrLaws.found_one (S l) c
  rw [S_toList] at this
  exact this
/-- off both ends -/
noncomputable def stripL (g : Nat → Bool) (l : List Nat) : List Nat := ((l.dropWhile g).reverse.dropWhile g).reverse
theorem drop_takeWhile {α} (g : α → Bool) : ∀ l : List α, l.drop (l.takeWhile g).length = l.dropWhile g
  | [] => rfl
  | a :: r => by
    rw [List.takeWhile_cons, List.dropWhile_cons]
    cases g a
    · rfl
    · simpa using drop_takeWhile g r
theorem take_rtake {α} (g : α → Bool) (l : List α) : l.take (l.length - (l.reverse.takeWhile g).length) = (l.reverse.dropWhile g).reverse := by
  have h := List.takeWhile_append_dropWhile (p := g) (l := l.reverse)
  have e : l = (l.reverse.dropWhile g).reverse ++ (l.reverse.takeWhile g).reverse := by
    rw [← List.reverse_append, h, List.reverse_reverse]
  generalize (l.reverse.dropWhile g).reverse = a at e ⊢
  generalize hb : (l.reverse.takeWhile g).reverse = b at e
  have hl : (l.reverse.takeWhile g).length = b.length := by rw [← hb, List.length_reverse]
  rw [hl, e]
  simp
theorem stripBy_S (g : Nat → Bool) (l : List Nat) : Txt.stripBy g true true (S l) = S (stripL g l) := by
  rw [PyProof.Rows.stripBy_eq]
  refine ofL ?_
  rw [StrLaws.strSub_toList]
  simp only [stripLo, stripHi, if_true, S_toList, S_len]
  rw [drop_takeWhile]
  unfold stripL
  rw [← take_rtake g (l.dropWhile g)]
  congr 1
  have := congrArg List.length (drop_takeWhile g l)
  rw [List.length_drop] at this
  omega
theorem strip_S (l : List Nat) : Txt.strip (S l) = S (stripL Unicode.isSpace l) := stripBy_S _ l
theorem stripChars_S (l cs : List Nat) : Txt.stripChars (S l) (S cs) = S (stripL (fun d => cs.contains d) l) := by
  have h := stripBy_S (S cs).cps.contains l
  rw [show Txt.stripChars (S l) (S cs) = Txt.stripBy (S cs).cps.contains true true (S l) from rfl, h]
  congr 2
  funext d; simp

/-- each sign as a table spells it -/
noncomputable def spell (T : List (Nat × List Nat)) (d : Nat) : List Nat := (T.lookup d).getD [d]
noncomputable def okT (T : List (Nat × List Nat)) (c : Nat) : Bool := T.all fun p => p.1 != c && !p.2.contains c
theorem memT : ∀ {T : List (Nat × List Nat)} {d : Nat} {u : List Nat}, T.lookup d = some u → (d, u) ∈ T
  | [], _, _, h => by cases h
  | (a, b) :: r, d, u, h => by
    rw [List.lookup_cons] at h
    cases e : d == a with
    | true => rw [e] at h; have := beq_iff_eq.mp e; cases h; subst this; simp
    | false => rw [e] at h; exact List.mem_cons_of_mem _ (memT h)
theorem lookup_app {T U : List (Nat × List Nat)} {d : Nat} : (T ++ U).lookup d = (T.lookup d).or (U.lookup d) := by
  rw [List.lookup_append]
theorem spell_snoc {T : List (Nat × List Nat)} {c : Nat} {z : List Nat} (h : okT T c = true) (d : Nat) :
    (spell T d).flatMap (fun e => if e = c then z else [e]) = spell (T ++ [(c, z)]) d := by
  unfold spell
  rw [lookup_app]
  cases hl : T.lookup d with
  | none =>
    simp only [Option.none_or, Option.getD_none, List.flatMap_cons, List.flatMap_nil, List.append_nil, List.lookup_cons, List.lookup_nil]
    by_cases hd : d = c
    · subst hd; simp
    · have : (d == c) = false := by simpa using hd
      simp [hd, this]
  | some u =>
    simp only [Option.some_or, Option.getD_some]
    have hm : (d, u) ∈ T := memT hl
    have := List.all_eq_true.mp h _ hm
    simp only [Bool.and_eq_true, Bool.not_eq_true', bne_iff_ne, ne_eq] at this
    exact flat_not (by intro q; have h2 := this.2; rw [List.contains_eq_mem] at h2; simp [q] at h2)
theorem flatMap_flatMap {f g : Nat → List Nat} (l : List Nat) : (l.flatMap f).flatMap g = l.flatMap fun d => (f d).flatMap g := by
  induction l with
  | nil => rfl
  | cons a r ih => rw [List.flatMap_cons, List.flatMap_append, ih, List.flatMap_cons]
noncomputable def lenT (T : List (Nat × List Nat)) : Bool := T.all fun p => decide (p.2.length ≤ 6)
theorem spell_len {T : List (Nat × List Nat)} (h : lenT T = true) (d : Nat) : (spell T d).length ≤ 6 := by
  unfold spell
  cases hl : T.lookup d with
  | none => simp
  | some u => simpa using of_decide_eq_true (List.all_eq_true.mp h _ (memT hl))
theorem flat_len {f : Nat → List Nat} {k : Nat} (h : ∀ d, (f d).length ≤ k) : ∀ l : List Nat, (l.flatMap f).length ≤ k * l.length
  | [] => by simp
  | a :: r => by
    have := flat_len h r
    have := h a
    rw [List.flatMap_cons, List.length_append, List.length_cons, Nat.mul_succ]
    omega
end Mine
end
section
open PySem PySem.W PyProof.Rows PySem.Calls
namespace Mine

section
variable {prog : Program} {w : World} {A : Around} {E : Value → Shared → Prop} {s : Shared} {env : Env} {x : Str} {t : Tok} {Q : Value → Shared → Prop}
theorem onStr {name : Str} {id : String} {pos : Pos} {args : List (Bool × Sem Value)} (slot : Slot "str" name id) (ty : typeOf (.builtin id) = pure (.type "method_descriptor"))
    (h : wpAny (model prog w) A (callWith pos (.builtin id) [.str x t] args []) Q E s) : MethodOnS prog w A E name (.str x t) pos args Q s :=
  ⟨"str", id, F.plainAttrs_str, slot, ty, typeIs_str _ _ _, (fun _ e => nomatch e), h⟩
theorem mc0 {o : Expr} {name : Str} {apos pos : Pos} (h : wpAny (model prog w) A (eval o env) (fun ov s₁ => MethodOnS prog w A E name ov pos [] Q s₁) E s)
    (hbase : attributeBase o name env (eval o env) = eval o env := by rfl) (hline : (apos.endLine == pos.line) = true := by rfl) :
    wpAny (model prog w) A (eval (.Call (.Attribute o name apos) [] [] pos) env) Q E s := Call_method0 hbase hline h
theorem mc1 {o e : Expr} {name : Str} {apos pos : Pos} (h : wpAny (model prog w) A (eval o env) (fun ov s₁ => MethodOnS prog w A E name ov pos [(false, eval e env)] Q s₁) E s)
    (hbase : attributeBase o name env (eval o env) = eval o env := by rfl) (hs : starEach [e] env = [(false, eval e env)] := by rfl) (hline : (apos.endLine == pos.line) = true := by rfl) :
    wpAny (model prog w) A (eval (.Call (.Attribute o name apos) [e] [] pos) env) Q E s := Call_method1 hbase hs hline h
theorem mc2 {o e₁ e₂ : Expr} {name : Str} {apos pos : Pos} (h : wpAny (model prog w) A (eval o env) (fun ov s₁ => MethodOnS prog w A E name ov pos [(false, eval e₁ env), (false, eval e₂ env)] Q s₁) E s)
    (hbase : attributeBase o name env (eval o env) = eval o env := by rfl) (hs : starEach [e₁, e₂] env = [(false, eval e₁ env), (false, eval e₂ env)] := by rfl) (hline : (apos.endLine == pos.line) = true := by rfl) :
    wpAny (model prog w) A (eval (.Call (.Attribute o name apos) [e₁, e₂] [] pos) env) Q E s := Call_method2 hbase hs hline h
theorem cw2 {pos : Pos} {id : String} {first : List Value} {a b : Sem Value} (h : wpAny (model prog w) A a (fun v s₁ => wpAny (model prog w) A b (fun u s₂ => wpAny (model prog w) A (call (.builtin id) (first ++ [v, u])) Q E s₂) E s₁) E s) :
    wpAny (model prog w) A (callWith pos (.builtin id) first [(false, a), (false, b)] []) Q E s :=
  Calls.callWith_builtin rfl (Calls.evalArgs_plain (Calls.spliced_cons (wpAny_mono h (fun _ _ h₁ => Calls.spliced_cons (wpAny_mono h₁ (fun _ _ h₂ => Calls.spliced_nil h₂) fun _ _ e => e)) fun _ _ e => e)))
theorem cw1 {pos : Pos} {id : String} {first : List Value} {a : Sem Value} (h : wpAny (model prog w) A a (fun v s₁ => wpAny (model prog w) A (call (.builtin id) (first ++ [v])) Q E s₁) E s) :
    wpAny (model prog w) A (callWith pos (.builtin id) first [(false, a)] []) Q E s :=
  Calls.callWith_builtin rfl (Calls.evalArgs_plain (Calls.spliced_cons (wpAny_mono h (fun _ _ h₁ => Calls.spliced_nil h₁) fun _ _ e => e)))
theorem cw0 {pos : Pos} {id : String} {first : List Value} (h : wpAny (model prog w) A (call (.builtin id) first) Q E s) :
    wpAny (model prog w) A (callWith pos (.builtin id) first [] []) Q E s :=
  Calls.callWith_builtin rfl (PySem.evalArgs_none (by simpa using h))
end

theorem keeps_tok {s : Shared} {k : Nat} : Keeps s { s with toks := k } := ⟨s.heap, k, rfl, fun _ _ e => e⟩
section
variable {prog : Program} {w : World} {A : Around} {s : Shared} {x y z : Str} {t u v : Tok}
theorem q_replace (hu : u ≠ 0) (hv : v ≠ 0) (huv : u ≠ v) (hyz : (y == z) = false) (hx : x.length ≤ 1048576) (hz : z.length ≤ 14) :
    Qt prog w A (call (.builtin "str.replace") [.str x t, .str y u, .str z v]) (fun r _ => ∃ t', r = .str (Txt.replace x y z) t') s :=
  Qt.mk (SC.replaceW hu hv huv hyz hx hz fun t' _ => ⟨⟨t', rfl⟩, keeps_tok⟩)
end

section
variable {prog : Program} {w : World} {A : Around} {E : Value → Shared → Prop} {s₀ s : Shared} {m cm : Str → Option Value} {env : Env} {n : Str}
/-- if 'c' in text: text = text.replace('c', 'z') -/
theorem esc_step {l z : List Nat} {c : Nat} {T : List (Nat × List Nat)} {t : Tok} {y zS : Str} {k1 k2 k3 : Nat} {p1 p2 p3 p4 p5 p6 p7 p8 p9 p10 p11 : Pos} {Q : Flow → Shared → Prop}
    (F : Fs s₀ env.locals m env.cells cm s) (hv : m n = some (.str (S (l.flatMap (spell T))) t)) (htk : 1 ≤ s.toks) (hx : l.length ≤ 100000)
    (h : ∀ s' m' t', Fs s₀ env.locals m' env.cells cm s' → m' n = some (.str (S (l.flatMap (spell (T ++ [(c, z)])))) t') → 1 ≤ s'.toks → Q .next s')
    (hy : y = S [c] := by decide +kernel) (hzS : zS = S z := by decide +kernel) (hyz : (z == [c]) = false := by decide +kernel) (hT : okT T c = true := by decide +kernel) (hL : lenT (T ++ [(c, z)]) = true := by decide +kernel) (hline : (p6.endLine == p9.line) = true := by rfl)
    (hk : env.scope.kind = .function := by rfl) (hl : env.kindOf n = some .local := by rfl) (hd : (n == ("__debug__" : Str)) = false := by decide) :
    wpAny (model prog w) A (exec (.If (.Compare (.Constant (.str y) k1 p1) [.In] [.Name n p2] p3)
      [.Assign [.Name n p4] (.Call (.Attribute (.Name n p5) "replace" p6) [.Constant (.str y) k2 p7, .Constant (.str zS) k3 p8] [] p9) p10] [] p11) env) Q E s := by
  subst hy hzS
  have hLT : lenT T = true := by unfold lenT at hL ⊢; rw [List.all_append, Bool.and_eq_true] at hL; exact hL.1
  have hz : z.length ≤ 6 := by unfold lenT at hL; rw [List.all_append, Bool.and_eq_true] at hL; simpa using hL.2
  have hlen := flat_len (spell_len hLT) l
  have key : Txt.replace (S (l.flatMap (spell T))) (S [c]) (S z) = S (l.flatMap (spell (T ++ [(c, z)]))) := by
    rw [replace_S, flatMap_flatMap]
    congr 2
    funext d; exact spell_snoc hT d
  refine wpAny_If (wpAny_isTrue_Compare1 (Constant_str (nmL (F.k (Kp.tok (Nat.le_succ _))) hv (SB.contains (wpAny_truthy_bool ?_)) hk hl hd)))
  rw [contains_S]
  by_cases hc : c ∈ l.flatMap (spell T)
  · simp only [hc, decide_true, if_true]
    refine wpAny_execs_cons (wpAny_Assign_Name (Call_method2 rfl rfl hline (nmL (F.k (Kp.tok (Nat.le_succ _))) hv (onStr PySem.F.slot_str_replace PySem.F.type_str_replace (cw2 (Constant_str (Constant_str ?_)))) hk hl hd)))
    have hne : (S [c] == S z) = false := by
      cases hq : (S [c] == S z) with
      | false => rfl
      | true => have := S_inj (eq_of_beq hq); subst this; simp at hyz
    refine (q_replace (by dsimp only; show @Ne Nat _ _; omega) (by dsimp only; show @Ne Nat _ _; omega) (by dsimp only; show @Ne Nat _ _; omega) hne (by rw [S_len]; omega) (by rw [S_len]; omega)).then fun r s₁ ⟨t', e⟩ k₁ => ?_
    subst e
    have k₀ : Kp s s₁ := (Kp.tok (by show s.toks ≤ s.toks + 1 + 1 + 1; omega)).trans k₁
    refine stL (F.k k₀) (fun s₂ F₂ u₂ => wpAny_execs_nil (h s₂ _ t' F₂ (by rw [key]; exact Upd.hit) (Nat.le_trans htk (Nat.le_trans k₀.2.2 u₂.2.2)))) hk hl
  · simp only [hc, decide_false, Bool.false_eq_true, if_false]
    refine wpAny_execs_nil (h _ m t (F.k (Kp.tok (Nat.le_succ _))) (by rw [← key, replace_S, flat_not hc]; exact hv) (Nat.le_succ_of_le htk))
end
end Mine
end
section
open PySem PySem.W PyProof.Rows PySem.Calls
namespace Mine

/-- an iterator's object lies there -/
noncomputable def It (s : Shared) (I : Addr) : Prop := ∃ o fs, s.heap.get? I = some o ∧ o.data = .fields fs
theorem Fs.it {s₀ s s' : Shared} {L I : Addr} {m cm : Str → Option Value} {cs : List (Str × Addr)} (F : Fs s₀ L m cs cm s) (h : It s I) (h0 : s₀.heap.get? I = none) (u : Up (· = I) s s') : Fs s₀ L m cs cm s' := by
  obtain ⟨oI, fs, hI, hfs⟩ := h
  have offL : L ≠ I := by
    rintro rfl
    obtain ⟨o, es, ep, ho, hd, _⟩ := F.inC.toInCall.ns
    rw [hI] at ho; cases ho; rw [hfs] at hd; cases hd
  have offC : ∀ n c, cs.lookup n = some c → c ≠ I := by
    rintro n c hc rfl
    obtain ⟨o, ho, hd⟩ := F.inC.cell n c hc
    rw [hI] at ho; cases ho; rw [hfs] at hd; cases hd
  have hu := u.2.1
  obtain ⟨⟨⟨⟨h, tk, rfl⟩, ns, kp, fr⟩, cell, ap, ab⟩, tk0⟩ := F
  obtain ⟨⟨h', tk', rfl⟩, _, t⟩ := u
  refine ⟨⟨⟨⟨h', tk', rfl⟩, ns.at' fun o e => hu L o offL e, fun b o e => ?_, fr⟩, fun n c e => ?_, ap, ab⟩, Nat.le_trans tk0 t⟩
  · exact hu b o (by rintro rfl; rw [h0] at e; cases e) (kp b o e)
  · obtain ⟨o, ho, hd⟩ := cell n c e
    exact ⟨o, hu c o (offC n c e) ho, hd⟩
theorem IsL.it {s s' : Shared} {v vs I} (x : IsL s v vs) (h : It s I) (u : Up (· = I) s s') : IsL s' v vs := by
  obtain ⟨a, e, o, ho, hc, n, hd⟩ := x
  obtain ⟨oI, fs, hI, hfs⟩ := h
  refine ⟨a, e, o, u.2.1 a o ?_ ho, hc, n, hd⟩
  rintro rfl
  rw [hI] at ho; cases ho; rw [hfs] at hd; cases hd
theorem IsT.it {s s' : Shared} {v vs I} (x : IsT s v vs) (h : It s I) (u : Up (· = I) s s') : IsT s' v vs := by
  obtain ⟨a, e, o, ho, hc, n, hd⟩ := x
  obtain ⟨oI, fs, hI, hfs⟩ := h
  refine ⟨a, e, o, u.2.1 a o ?_ ho, hc, n, hd⟩
  rintro rfl
  rw [hI] at ho; cases ho; rw [hfs] at hd; cases hd

/-- the heap and the tokens alone -/
noncomputable def Hk (s s' : Shared) : Prop := (∀ b o, s.heap.get? b = some o → s'.heap.get? b = some o) ∧ s.toks ≤ s'.toks
theorem Kp.hk {s s' : Shared} (k : Kp s s') : Hk s s' := ⟨k.keep, k.2.2⟩
theorem Hk.trans {s s' s'' : Shared} (a : Hk s s') (b : Hk s' s'') : Hk s s'' := ⟨fun x o e => b.1 x o (a.1 x o e), Nat.le_trans a.2 b.2⟩
theorem IsL.hk {s s' : Shared} {v vs} (x : IsL s v vs) (k : Hk s s') : IsL s' v vs := let ⟨a, e, l⟩ := x; ⟨a, e, l.at fun o ho => k.1 a o ho⟩
theorem IsT.hk {s s' : Shared} {v vs} (x : IsT s v vs) (k : Hk s s') : IsT s' v vs := let ⟨a, e, o, ho, r⟩ := x; ⟨a, e, o, k.1 a o ho, r⟩

/-- what can be walked: n items, each as P says -/
noncomputable def Src (prog : Program) (w : World) (xv : Value) (s : Shared) (n : Nat) (P : Nat → Value → Prop) (Y : List Addr) : Prop :=
  ∀ (A : Around) (E : Value → Shared → Prop) (Q : Value → Shared → Prop),
    (∀ I St s₂, (∀ A' : Around, A'.handled = none → Walks prog w A' I (I :: Y) [I] n P St) → St 0 s₂.heap → (∀ i s, St i s.heap → It s I) → (∀ b ∈ I :: Y, b < s₂.heap.objs.size) → Kp s s₂ → s.heap.get? I = none → Q (.ref I) s₂) →
    wpAny (model prog w) A (pyIter xv) Q E s

theorem none_size (h : Heap) : h.get? h.objs.size = none := by
  cases e : h.get? h.objs.size with
  | none => rfl
  | some o => exact absurd (Heap.lt_size e) (Nat.lt_irrefl _)

section
variable {prog : Program} {w : World} {s : Shared}
theorem src_list {a : Addr} {vs : List Value} (h : s.heap.IsList a vs.toArray) : Src prog w (.ref a) s vs.length (fun i v => vs[i]? = some v) [a] := by
  intro A E Q hQ
  have hne : a ≠ s.heap.objs.size := by obtain ⟨o, ho, _⟩ := h; exact Nat.ne_of_lt (Heap.lt_size ho)
  refine wpAny_pyIter_list h (hQ _ (fun i h => h.IsListIter s.heap.objs.size a i ∧ h.IsList a vs.toArray) _ (fun A' hA => ?_) ⟨⟨_, Heap.get?_push_size _ rfl, rfl, rfl⟩, h.push _⟩ ?_ ?_ (Kp.push _) (none_size _))
  · have := Walks.list (prog := prog) (w := w) hA s.heap.objs.size a hne vs.toArray
    simpa using this
  · rintro i s' ⟨⟨o, ho, _, hd⟩, _⟩
    exact ⟨o, _, ho, hd⟩
  · intro b hb
    rw [show ({ s with heap := s.heap.push { cls := .type "list_iterator", data := .fields #[.ref a, .int 0 0] } } : Shared).heap.objs.size = s.heap.objs.size + 1 from Heap.size_push ..]
    rcases List.mem_cons.mp hb with rfl | hb
    · exact Nat.lt_succ_self _
    · rw [List.mem_singleton.mp hb]; obtain ⟨o, ho, _⟩ := h; exact Nat.lt_succ_of_lt (Heap.lt_size ho)
theorem src_str {x : Str} {t : Tok} : Src prog w (.str x t) s x.cps.size (SignAt x) [] := by
  intro A E Q hQ
  have hsz : ∀ o : Obj, ∀ b ∈ [s.heap.objs.size], b < ({ s with heap := s.heap.push o } : Shared).heap.objs.size := by
    intro o b hb
    rw [show ({ s with heap := s.heap.push o } : Shared).heap.objs.size = s.heap.objs.size + 1 from Heap.size_push ..]
    rw [List.mem_singleton.mp hb]; exact Nat.lt_succ_self _
  cases ha : x.cps.all (· < 128)
  · refine wpAny_pyIter_wide ha (hQ _ _ _ (fun A' hA => Walks.strWide hA _ x t) ⟨_, Heap.get?_push_size _ rfl, rfl, rfl⟩ ?_ (hsz _) (Kp.push _) (none_size _))
    rintro i s' ⟨o, ho, _, hd⟩; exact ⟨o, _, ho, hd⟩
  · refine wpAny_pyIter_ascii ha (hQ _ _ _ (fun A' hA => Walks.strAscii hA _ x t) ⟨_, Heap.get?_push_size _ rfl, rfl, rfl⟩ ?_ (hsz _) (Kp.push _) (none_size _))
    rintro i s' ⟨o, ho, _, hd⟩; exact ⟨o, _, ho, hd⟩
theorem src_range {r : Addr} {n : Nat} {t u v : Tok} (hr : IsRange s.heap r 0 n 1 t u v) (hn : n < 1000000) : Src prog w (.ref r) s n (fun i v => ∃ t, v = .int i t) [] := by
  intro A E Q hQ
  have hsz : ∀ o : Obj, ∀ b ∈ [s.heap.objs.size], b < ({ s with heap := s.heap.push o } : Shared).heap.objs.size := by
    intro o b hb
    rw [show ({ s with heap := s.heap.push o } : Shared).heap.objs.size = s.heap.objs.size + 1 from Heap.size_push ..]
    rw [List.mem_singleton.mp hb]; exact Nat.lt_succ_self _
  have hrs : Builtin.Range.rangeSize 0 n 1 = (n : Int) := by rw [rangeSize_nat]; simp
  refine wpAny_pyIter_range hr (small_one (by omega) (by omega) (by omega) (by omega)) (hQ _ (fun i h => IsRangeIter h s.heap.objs.size (0 + (i : Nat) * 1) ((n : Int) - (i : Nat)) 1) _ (fun A' hA => ?_) ?_ ?_ (hsz _) (Kp.push _) (none_size _))
  · have := Walks.range (prog := prog) (w := w) hA s.heap.objs.size 0 1 n
    simpa using this
  · show IsRangeIter _ _ _ _ _
    rw [hrs]; simpa using Heap.get?_push_size _ rfl
  · intro i s' h
    exact ⟨_, _, h, rfl⟩
end

section
variable {prog : Program} {w : World} {A : Around} {s₀ s : Shared} {m cm : Str → Option Value} {env : Env}
/-- a for loop by what holds ahead of its i-th item -/
theorem st_for {target iter : Expr} {body : List Stmt} {pos : Pos} {n : Nat} {P : Nat → Value → Prop} {Y : List Addr} {Q : Flow → Shared → Prop} {E : Value → Shared → Prop} (hA : A.handled = none)
    (X : Addr → Prop) (J : Nat → Shared → Prop)
    (he : Qt prog w A (eval iter env) (fun xv s₁ => Src prog w xv s₁ n P Y) s)
    (hX : ∀ b, X b → b ∉ Y ∧ ∃ o, s.heap.get? b = some o)
    (h0 : ∀ s₁, Kp s s₁ → J 0 s₁)
    (hJ : ∀ I i s₁ s₂, s.heap.get? I = none → J i s₁ → It s₁ I → Up (· = I) s₁ s₂ → J i s₂)
    (turn : ∀ i v s₁, i < n → P i v → J i s₁ → wpAny (model prog w) A (assign target env v) (fun _ s₂ => wpAny (model prog w) A (execs body env) (fun f s₃ => match f with
      | .next | .cont => J (i + 1) s₃ ∧ Up X s₁ s₃ | .brk => False | .ret v => Q (.ret v) s₃) (fun _ _ => False) s₂) (fun _ _ => False) s₁)
    (done : ∀ s₁, J n s₁ → Q .next s₁)
    (hs : ∀ x, foldedSetIterable iter env x = pure x := by intro _; rfl)
    (ht : ∀ I v, letOwnedTupleGo target (.ref I) v = pure () := by intro _ _; rfl) :
    wpAny (model prog w) A (exec (.For target iter body [] pos) env) Q E s := by
  refine wpAny_For (he.then fun xv s₁ hsrc k₁ => hsrc _ _ _ fun I St s₂ hW hst hIt hsz k₂ hI => ?_) hs
  have W := hW A hA
  have hIs : s.heap.get? I = none := by
    cases e : s.heap.get? I with
    | none => rfl
    | some o => have := k₁.keep _ _ e; rw [hI] at this; cases this
  have hXI : ∀ b, X b → b ∉ I :: Y := by
    intro b hb hm
    obtain ⟨hY, o, ho⟩ := hX b hb
    rcases List.mem_cons.mp hm with rfl | hm
    · rw [hIs] at ho; cases ho
    · exact hY hm
  refine codeAny_forLoop_any (fun k s' => ∃ i, i ≤ n ∧ k = n + 1 - i ∧ St i s'.heap ∧ J i s') ?_ (n + 1) ⟨0, Nat.zero_le _, rfl, hst, h0 _ (k₁.trans k₂)⟩
  rintro k s₃ ⟨i, hi, rfl, hst₃, hj⟩
  by_cases hlt : i < n
  · refine wpAny_with_toks (n := s₃.toks) (Nat.le_refl _) (W.item i s₃ _ _ hlt hst₃ fun v h' tk hP hst' hk htk => ?_)
    have u : Up (· = I) s₃ { s₃ with heap := h', toks := tk } := ⟨⟨h', tk, rfl⟩, fun b o hb e => hk b o (fun hm => hb (List.mem_singleton.mp hm)) e, htk⟩
    have hj' := hJ I i _ _ hIs hj (hIt i s₃ hst₃) u
    refine wpAny_of_eq (ht I v) ?_
    refine wpAny_mono (turn i v _ hlt hP hj') (fun _ s₄ h₄ => wpAny_mono h₄ (fun f s₅ h₅ => ?_) fun _ _ x => x.elim) fun _ _ x => x.elim
    have fin : J (i + 1) s₅ ∧ Up X { s₃ with heap := h', toks := tk } s₅ → ∃ m, m < n + 1 - i ∧ ∃ i, i ≤ n ∧ m = n + 1 - i ∧ St i s₅.heap ∧ J i s₅ := by
      rintro ⟨hj₅, u₅⟩
      exact ⟨n + 1 - (i + 1), by omega, i + 1, hlt, rfl, W.frame _ _ _ hst' fun b hb o e => u₅.2.1 b o (fun hx => hXI b hx hb) e, hj₅⟩
    cases f with
    | next => exact fin h₅
    | cont => exact fin h₅
    | brk => exact h₅.elim
    | ret v => exact h₅
  · have hin : i = n := by omega
    subst hin
    refine wpAny_with_toks (n := s₃.toks) (Nat.le_refl _) (W.done s₃ _ _ hst₃ fun h' tk hk htk => ?_)
    refine wpAny_execs_nil (done _ (hJ I i s₃ _ hIs hj (hIt i s₃ hst₃) ⟨⟨h', tk, rfl⟩, fun b o hb e => hk b o (fun hm => hb (List.mem_singleton.mp hm)) e, htk⟩))

/-- a list comprehension (its names may be cells of the def) -/
theorem q_comp {elt iter : Expr} {x : Str} {px : Pos} {ifs : List Expr} {scope : Scope} {cl : List (Str × Addr)} {pos : Pos} {n : Nat} {P : Nat → Value → Prop} {Y : List Addr} (hA : A.handled = none) (hn : n ≤ sizeLine)
    (p : Value → Bool) (F : Value → Value → Prop)
    (he : Qt prog w A (eval iter env) (fun xv s₁ => Src prog w xv s₁ n P Y) s)
    (htest : ∀ C i v s₃ m₃, P i v → s₃.heap.Ns C m₃ → m₃ x = some v → Hk s s₃ →
      Qt prog w A (forIn ifs true fun c r => if r = true then do let ok ← isTrue c (compEnvC scope cl C env) (eval c (compEnvC scope cl C env)); pure (ForInStep.yield ok) else pure (ForInStep.yield r)) (fun ok _ => ok = p v) s₃)
    (helt : ∀ C i v s₃ m₃, P i v → p v = true → s₃.heap.Ns C m₃ → m₃ x = some v → Hk s s₃ → Qt prog w A (eval elt (compEnvC scope cl C env)) (fun y _ => F v y) s₃)
    (hclos : closureFor scope env = pure cl := by rfl) (hcell : ∀ y ∈ scope.names, y.2 ≠ .cell := by decide +kernel) (hkind : scope.kind = .function := by rfl)
    (hnames : ∀ y ∈ scope.names, y.2 = .local → scope.names.lookup y.1 = some .local := by decide +kernel) (hx : scope.names.lookup x = some .local := by rfl)
    (hs : ∀ x, foldedSetIterable iter env x = pure x := by intro _; rfl) :
    Qt prog w A (eval (.ListComp elt [⟨.Name x px, iter, ifs, 0⟩] scope pos) env)
      (fun v s' => ∃ a, v = .ref a ∧ s.heap.get? a = none ∧ ∃ vs ys : List Value, s'.heap.PlainList a ys.toArray ∧ vs.length = n ∧ (∀ j v, vs[j]? = some v → P j v) ∧ Paired F (vs.filter p) ys) s := by
  refine Qt.mk (wpAny_ListComp_free p F hclos hcell hkind hnames hx (he.then fun xv s₁ hsrc k₁ => hsrc _ _ _ fun I St s₂ hW hst hIt hsz k₂ hI => ?_) hs)
  have kk : Kp s s₂ := k₁.trans k₂
  have hIs : s.heap.get? I = none := by
    cases e : s.heap.get? I with
    | none => rfl
    | some o => have := k₁.keep _ _ e; rw [hI] at this; cases this
  have hH : ∀ s₃ : Shared, (∀ b o, b ∉ [I] → s₂.heap.get? b = some o → s₃.heap.get? b = some o) → s₂.toks ≤ s₃.toks → Hk s s₃ := fun s₃ hk htk =>
    ⟨fun b o e => hk b o (by rintro hm; rw [List.mem_singleton.mp hm, hIs] at e; cases e) (kk.keep b o e), Nat.le_trans kk.2.2 htk⟩
  refine ⟨I, I :: Y, [I], n, P, St, rfl, hW A hA, hn, hst, hsz, ⟨?_, ?_⟩, ?_⟩
  · intro C i v s₃ m₃ E' hC hP hns hm hk htk
    exact (htest C i v s₃ m₃ hP hns hm (hH s₃ hk htk)).then fun _ _ a b => ⟨a, b.keeps⟩
  · intro C i v s₃ m₃ E' hC hP hp hns hm hk htk
    exact (helt C i v s₃ m₃ hP hp hns hm (hH s₃ hk htk)).then fun _ _ a b => ⟨a, b.keeps⟩
  · intro D h' tk ys vs hD hl hpl hlen hP hF hk
    obtain ⟨⟨h2, tk2, rfl⟩, kk2, _⟩ := kk
    refine ⟨⟨D, rfl, ?_, vs, ys.toList, by simpa using hpl, hlen, hP, hF⟩, h', tk, rfl, fun b o e => hk b o ?_ (kk2 b o id e)⟩
    · cases e : s.heap.get? D with
      | none => rfl
      | some o => have := kk2 _ _ id e; rw [hD] at this; cases this
    · intro hm; rw [List.mem_singleton.mp hm, hIs] at e; cases e
theorem c_comp {elt iter : Expr} {x : Str} {px : Pos} {ifs : List Expr} {scope : Scope} {cl : List (Str × Addr)} {pos : Pos} {n : Nat} {P : Nat → Value → Prop} {Y : List Addr} {Q : Value → Shared → Prop} {E : Value → Shared → Prop}
    (p : Value → Bool) (F : Value → Value → Prop) (hA : A.handled = none) (hn : n ≤ sizeLine)
    (he : Qt prog w A (eval iter env) (fun xv s₁ => Src prog w xv s₁ n P Y) s)
    (htest : ∀ C i v s₃ m₃, P i v → s₃.heap.Ns C m₃ → m₃ x = some v → Hk s s₃ →
      Qt prog w A (forIn ifs true fun c r => if r = true then do let ok ← isTrue c (compEnvC scope cl C env) (eval c (compEnvC scope cl C env)); pure (ForInStep.yield ok) else pure (ForInStep.yield r)) (fun ok _ => ok = p v) s₃)
    (helt : ∀ C i v s₃ m₃, P i v → p v = true → s₃.heap.Ns C m₃ → m₃ x = some v → Hk s s₃ → Qt prog w A (eval elt (compEnvC scope cl C env)) (fun y _ => F v y) s₃)
    (h : ∀ a s', s.heap.get? a = none → Kp s s' → (∃ vs ys : List Value, s'.heap.PlainList a ys.toArray ∧ vs.length = n ∧ (∀ j v, vs[j]? = some v → P j v) ∧ Paired F (vs.filter p) ys) → Q (.ref a) s')
    (hclos : closureFor scope env = pure cl := by rfl) (hcell : ∀ y ∈ scope.names, y.2 ≠ .cell := by decide +kernel) (hkind : scope.kind = .function := by rfl)
    (hnames : ∀ y ∈ scope.names, y.2 = .local → scope.names.lookup y.1 = some .local := by decide +kernel) (hx : scope.names.lookup x = some .local := by rfl)
    (hs : ∀ x, foldedSetIterable iter env x = pure x := by intro _; rfl) :
    wpAny (model prog w) A (eval (.ListComp elt [⟨.Name x px, iter, ifs, 0⟩] scope pos) env) Q E s :=
  (q_comp hA hn p F he htest helt hclos hcell hkind hnames hx hs).then fun v s' ⟨a, e, ha, r⟩ k => by subst e; exact h a s' ha k r
theorem q_notest {ifs : List Expr} {env : Env} (h : ifs = []) {v : Value} : Qt prog w A (forIn ifs true fun c r => if r = true then do let ok ← isTrue c env (eval c env); pure (ForInStep.yield ok) else pure (ForInStep.yield r)) (fun ok _ => ok = (fun _ => true) v) s := by
  subst h
  exact wpAny_tests_nil ⟨rfl, Kp.rfl'⟩
end
end Mine
end
section
open PySem PySem.W PyProof.Rows PySem.Calls
namespace Mine

structure PSt where
  res : List (List Nat)
  part : List Nat
  esc : Bool
  quo : Bool
noncomputable def pstep (st : PSt) (c : Nat) : PSt :=
  if st.esc then ⟨st.res, st.part ++ [c], false, st.quo⟩
  else if st.quo then
    if c = 92 then ⟨st.res, st.part, true, true⟩
    else ⟨st.res, st.part ++ [c], false, decide (c ≠ 34)⟩
  else if c = 44 then ⟨st.res ++ [st.part], [], false, false⟩
  else ⟨st.res, st.part ++ [c], false, decide (c = 34)⟩
noncomputable def pfold (l : List Nat) : PSt := l.foldl pstep ⟨[], [], false, false⟩
noncomputable def parseR (l : List Nat) : List (List Nat) := (pfold l).res ++ (if (pfold l).part = [] then [] else [(pfold l).part])
noncomputable def parseL (l : List Nat) : List (List Nat) := (parseR l).map (stripL Unicode.isSpace)

theorem pstep_len (st : PSt) (c : Nat) : (pstep st c).part.length ≤ st.part.length + 1 ∧ (pstep st c).res.length ≤ st.res.length + 1 := by
  unfold pstep
  split
  · simp
  · split
    · split <;> simp
    · split <;> simp

section
variable {prog : Program} {w : World} {A : Around} {E : Value → Shared → Prop} {s : Shared}
theorem q_newList {vs : List Value} (h : vs.length ≤ sizeLine) : Qt prog w A (newList vs) (fun v s' => ∃ a, v = .ref a ∧ s.heap.get? a = none ∧ s'.heap.PlainList a vs.toArray) s :=
  wpAny_newObj_type ⟨⟨_, rfl, none_size _, 0, Heap.get?_push_size _ rfl⟩, Kp.push _⟩ (by show vs.toArray.size ≤ sizeLine; simpa using h)
theorem q_iadd {x y : List Nat} {t u : Tok} (h : x.length + y.length ≤ 16777216) : Qt prog w A (inplaceOp .Add (.str (S x) t) (.str (S y) u)) (fun v _ => ∃ t', v = .str (S (x ++ y)) t') s :=
  Qt.mk (SB.iadd (fun t' _ => ⟨⟨t', by rw [S_app]⟩, keeps_tok⟩) (by rw [S_len, S_len, sizeLine_eq]; exact h))
theorem q_truthy {x : List Nat} {t : Tok} (h : x.length ≤ 16777216) : Qt prog w A (truthy (.str (S x) t)) (fun b _ => b = decide (x ≠ [])) s :=
  Qt.mk (P.truthy_str (by rw [S_len]; omega) ⟨by
    rw [S_len]
    cases x with
    | nil => rfl
    | cons a r => simp; omega, keeps_tok⟩)
theorem eq_S {x y : List Nat} {t u : Tok} {Q : Value → Shared → Prop} (h : Q (.bool (decide (x = y))) s) : wpAny (model prog w) A (compareOp .Eq (.str (S x) t) (.str (S y) u)) Q E s := by
  refine P.eq_str ?_
  rw [S_toList, S_toList]
  have : (x == y) = decide (x = y) := by cases h : (x == y) <;> simp_all
  rw [this]; exact h
theorem q_append {r : Addr} {us : List Value} {v : Value} (h : s.heap.PlainList r us.toArray) (hsz : us.length ≤ sizeLine) :
    wpAny (model prog w) A (call (.builtin "list.append") [.ref r, v]) (fun x s' => x = .none ∧ s'.heap.PlainList r (us ++ [v]).toArray ∧ Up (· = r) s s') E s :=
  wpAny_list_append_plain h (fun h' hp hs => ⟨rfl, by simpa using hp, ⟨_, _, rfl⟩, fun b o hb e => hs.extBut b o hb e, Nat.le_refl _⟩) (by simpa using hsz)
theorem onList {name : Str} {id : String} {pos : Pos} {args : List (Bool × Sem Value)} {a : Addr} {its : Array Value} {Q : Value → Shared → Prop} (slot : Slot "list" name id) (ty : typeOf (.builtin id) = pure (.type "method_descriptor"))
    (hl : s.heap.PlainList a its) (h : wpAny (model prog w) A (callWith pos (.builtin id) [.ref a] args []) Q E s) : MethodOnS prog w A E name (.ref a) pos args Q s :=
  ⟨"list", id, PySem.F.plainAttrs_list, slot, ty, hl.isList.typeIs, (fun b e => by cases e; obtain ⟨n, ho⟩ := hl; exact ⟨_, ho, rfl⟩), h⟩
end
theorem PL.up {s₀ s s' : Shared} {L r : Addr} {m cm : Str → Option Value} {cs : List (Str × Addr)} {its : Array Value} (hr : s.heap.PlainList r its) (F : Fs s₀ L m cs cm s) (u : Up (Mx L cs) s s') : s'.heap.PlainList r its := by
  obtain ⟨n, ho⟩ := hr
  exact ⟨n, u.2.1 r _ (F.off ho (by intro _ _ q; cases q) (by intro _ q; cases q)) ho⟩
theorem PL.k {s s' : Shared} {r : Addr} {its : Array Value} (hr : s.heap.PlainList r its) (k : Kp s s') : s'.heap.PlainList r its := hr.at fun o e => k.keep r o e
theorem PL.it {s s' : Shared} {I r : Addr} {its : Array Value} (hr : s.heap.PlainList r its) (h : It s I) (u : Up (· = I) s s') : s'.heap.PlainList r its := by
  obtain ⟨n, ho⟩ := hr
  obtain ⟨o, fs, hI, hf⟩ := h
  exact ⟨n, u.2.1 r _ (by rintro rfl; rw [ho] at hI; cases hI; cases hf) ho⟩
/-- an append leaves the frame -/
theorem Fs.app {s₀ s s' : Shared} {L r : Addr} {m cm : Str → Option Value} {cs : List (Str × Addr)} {its : Array Value} (F : Fs s₀ L m cs cm s) (hr : s.heap.PlainList r its) (h0 : s₀.heap.get? r = none) (u : Up (· = r) s s') : Fs s₀ L m cs cm s' := by
  obtain ⟨n, ho⟩ := hr
  have offL : L ≠ r := by
    rintro rfl
    obtain ⟨o, es, ep, ho', hd, _⟩ := F.inC.toInCall.ns
    rw [ho] at ho'; cases ho'; cases hd
  have offC : ∀ n c, cs.lookup n = some c → c ≠ r := by
    rintro n c hc rfl
    obtain ⟨o, ho', hd⟩ := F.inC.cell n c hc
    rw [ho] at ho'; cases ho'; cases hd
  have hu := u.2.1
  obtain ⟨⟨⟨⟨h, tk, rfl⟩, ns, kp, fr⟩, cell, ap, ab⟩, tk0⟩ := F
  obtain ⟨⟨h', tk', rfl⟩, _, t⟩ := u
  refine ⟨⟨⟨⟨h', tk', rfl⟩, ns.at' fun o e => hu L o offL e, fun b o e => ?_, fr⟩, fun n c e => ?_, ap, ab⟩, Nat.le_trans tk0 t⟩
  · exact hu b o (by rintro rfl; rw [h0] at e; cases e) (kp b o e)
  · obtain ⟨o, ho, hd⟩ := cell n c e
    exact ⟨o, hu c o (offC n c e) ho, hd⟩
theorem Fs.has {s₀ s : Shared} {L : Addr} {m cm : Str → Option Value} {cs : List (Str × Addr)} (F : Fs s₀ L m cs cm s) {b : Addr} (h : Mx L cs b) : ∃ o, s.heap.get? b = some o := by
  rcases h with rfl | ⟨n, hn⟩
  · obtain ⟨o, _, _, ho, _⟩ := F.inC.toInCall.ns; exact ⟨o, ho⟩
  · obtain ⟨o, ho, _⟩ := F.inC.cell n b hn; exact ⟨o, ho⟩
theorem pfold_snoc {l : List Nat} {i c : Nat} (h : (S l).cps[i]? = some c) : pfold (l.take (i + 1)) = pstep (pfold (l.take i)) c := by
  have h' : l[i]? = some c := by simpa using h
  unfold pfold
  rw [List.take_add_one, h', List.foldl_append]; rfl
theorem pfold_lens (l : List Nat) (i : Nat) : (pfold (l.take i)).part.length ≤ i ∧ (pfold (l.take i)).res.length ≤ i := by
  induction i with
  | zero => simp [pfold]
  | succ i ih =>
    cases h : l[i]? with
    | none =>
      have e : l.take (i + 1) = l.take i := by rw [List.take_add_one, h]; simp
      rw [e]; omega
    | some c =>
      have := pstep_len (pfold (l.take i)) c
      rw [pfold_snoc (l := l) (c := c) (by simpa using h)]
      omega
theorem pfold_items (l : List Nat) (i : Nat) : ∀ p ∈ (pfold (l.take i)).res, p.length ≤ i := by
  induction i with
  | zero => simp [pfold]
  | succ i ih =>
    cases h : l[i]? with
    | none =>
      have e : l.take (i + 1) = l.take i := by rw [List.take_add_one, h]; simp
      rw [e]; intro p hp; have := ih p hp; omega
    | some c =>
      have hl := (pfold_lens l i).1
      rw [pfold_snoc (l := l) (c := c) (by simpa using h)]
      intro p hp
      unfold pstep at hp
      split at hp
      · have := ih p hp; omega
      · split at hp
        · split at hp <;> (have := ih p hp; omega)
        · split at hp
          · rcases List.mem_append.mp hp with hp | hp
            · have := ih p hp; omega
            · rw [List.mem_singleton.mp hp]; omega
          · have := ih p hp; omega
theorem parseR_items (l : List Nat) : ∀ p ∈ parseR l, p.length ≤ l.length := by
  have h1 := pfold_items l l.length
  have h2 := (pfold_lens l l.length).1
  rw [List.take_length] at h1 h2
  intro p hp
  unfold parseR at hp
  rcases List.mem_append.mp hp with hp | hp
  · exact h1 p hp
  · split at hp
    · simp at hp
    · rw [List.mem_singleton.mp hp]; exact h2
theorem parseR_length (l : List Nat) : (parseR l).length ≤ l.length + 1 := by
  have h2 := (pfold_lens l l.length).2
  rw [List.take_length] at h2
  unfold parseR
  split <;> simp <;> omega

theorem strs_at {vs : List Value} {ps : List (List Nat)} : StrsAre vs (ps.map S) → ∀ {i : Nat} {v : Value}, vs[i]? = some v → ∃ x t, v = .str (S x) t ∧ x ∈ ps ∧ ps[i]? = some x := by
  intro h
  generalize hq : ps.map S = qs at h
  induction h generalizing ps with
  | nil => intro i v hv; simp at hv
  | cons y t h ih =>
    cases ps with
    | nil => cases hq
    | cons p r =>
      cases hq
      intro i v hv
      cases i with
      | zero => simp at hv; exact ⟨p, t, hv.symm, by simp, by simp⟩
      | succ i => obtain ⟨x, t', a, b, c⟩ := ih rfl (i := i) (v := v) (by simpa using hv); exact ⟨x, t', a, by simp [b], by simpa using c⟩
theorem same_items {α : Type} {vs us : List α} (hl : us.length = vs.length) (h : ∀ (j : Nat) v, us[j]? = some v → vs[j]? = some v) : us = vs := by
  refine List.ext_getElem? fun j => ?_
  cases e : us[j]? with
  | some v => exact (h j v e).symm
  | none =>
    have : us.length ≤ j := by simpa using e
    rw [hl] at this
    exact (List.getElem?_eq_none this).symm
/-- what a comprehension makes of texts -/
noncomputable def ToS (f : List Nat → List Nat) (v y : Value) : Prop := ∀ x t, v = .str (S x) t → ∃ t', y = .str (S (f x)) t'
theorem paired_strs {f : List Nat → List Nat} {vs ys : List Value} {ps : List (List Nat)} (h : StrsAre vs (ps.map S)) (hp : Paired (ToS f) vs ys) : StrsAre ys ((ps.map f).map S) := by
  induction hp generalizing ps with
  | nil => cases ps with
    | nil => exact .nil
    | cons p r => cases h
  | cons hab _ ih =>
    cases ps with
    | nil => cases h
    | cons p r =>
      cases h with
      | cons y t h =>
        obtain ⟨t', rfl⟩ := hab p t rfl
        exact .cons _ _ (ih h)
theorem filter_all {α : Type} (l : List α) : l.filter (fun _ => true) = l := by induction l <;> simp_all

section
variable {prog : Program} {w : World} {A : Around} {E : Value → Shared → Prop} {s : Shared} {m : Str → Option Value} {env : Env} {n : Str} {v : Value}
theorem nmN {pos : Pos} {Q : Value → Shared → Prop} (hns : s.heap.Ns env.locals m) (hv : m n = some v) (h : Q v s)
    (hk : env.scope.kind = .function := by rfl) (hl : env.kindOf n = some .local := by rfl) (hd : (n == ("__debug__" : Str)) = false := by decide) :
    wpAny (model prog w) A (eval (.Name n pos) env) Q E s := wpAny_Name (wpAny_loadName_local hk hl hns hv h) hd
theorem q_strip {x : List Nat} {t : Tok} (h : x.length ≤ 16777216) : Qt prog w A (call (.builtin "str.strip") [.str (S x) t]) (fun v _ => ∃ t', v = .str (S (stripL Unicode.isSpace x)) t') s :=
  Qt.mk (SC.strip (fun t' _ => ⟨⟨t', by rw [strip_S]⟩, keeps_tok⟩) (by rw [S_len, sizeLine_eq]; exact h))
end
end Mine
end
section
open PySem PySem.W PyProof.Rows PySem.Calls
namespace Mine

theorem strs_of_values : ∀ (l : List (Str × Tok)), StrsAre (strValues l) (l.map (·.1))
  | [] => .nil
  | (x, t) :: r => .cons _ _ (strs_of_values r)

section
variable {prog : Program} {w : World} {A : Around} {E : Value → Shared → Prop} {s : Shared}
theorem q_split {l : List Nat} {c : Nat} {t u : Tok} (h : l.length + 2 ≤ 16777216) : Qt prog w A (call (.builtin "str.split") [.str (S l) t, .str (S [c]) u])
    (fun v s' => ∃ a vs, v = .ref a ∧ s'.heap.IsList a vs.toArray ∧ StrsAre vs ((splitL c l).map S)) s := by
  refine Qt.mk (SCH.split1 (P := fun h' => ∀ b o, s.heap.get? b = some o → h'.get? b = some o) (fun h' ob hk b o e => Heap.get?_push_of_some _ (hk b o e)) (fun _ _ e => e) rfl ?_ (by rw [S_len, sizeLine_eq]; omega) ?_)
  · intro D vs h' k e hk hl
    refine ⟨⟨D, strValues vs, rfl, hl, ?_⟩, h', k, rfl, hk⟩
    rw [← split_S, ← e]; exact strs_of_values vs
  · have := StrLaws.occ_length_le_len (S l) (S [c]) 0 (S l).length ((S l).length + 1)
    rw [length_partsBetween, sizeLine_eq]
    rw [S_len] at *
    omega
theorem splitMax_S {a b : List Nat} {c : Nat} (h : c ∉ a) : Txt.splitMax (S (a ++ c :: b)) (S [c]) 1 = [S a, S b] := by
  have hm : c ∈ a ++ c :: b := by simp
  have hat : ∀ i, StrLaws.At (S (a ++ c :: b)) (S [c]) (S (a ++ c :: b)).length i ↔ (a ++ c :: b)[i]? = some c := by
    intro i
    have := StrLaws.subAt_one (S (a ++ c :: b)) c i
    rw [S_toList] at this
    exact this
  have h1 : (decide ((S (a ++ c :: b)).length < (S [c]).length) || decide (Builtin.Str.strKind (S (a ++ c :: b)) < Builtin.Str.strKind (S [c]))) = false := by
    rw [Bool.or_eq_false_iff]
    refine ⟨decide_eq_false ?_, decide_eq_false fun hk => ?_⟩
    · rw [S_len, S_len]; simp
    · have := StrLaws.kind_free (S (a ++ c :: b)) c hk
      rw [S_toList] at this; exact this hm
  have hocc : Builtin.Str.occurrences (S (a ++ c :: b)) (S [c]) 0 (S (a ++ c :: b)).length 1 = [a.length] := by
    rcases StrLaws.occ_head (S (a ++ c :: b)) (S [c]) 1 (Nat.le_refl _) with ⟨_, hn⟩ | ⟨i, r, e, hi, hmin⟩
    · exact absurd ((hat a.length).mpr (by simp)) (hn a.length)
    · have hlen := StrLaws.occ_length_le (S (a ++ c :: b)) (S [c]) 0 (S (a ++ c :: b)).length 1
      rw [e] at hlen ⊢
      have hr : r = [] := by cases r with | nil => rfl | cons x y => simp at hlen
      subst hr
      have hi' := (hat i).mp hi
      congr 1
      rcases Nat.lt_trichotomy i a.length with hlt | heq | hgt
      · exfalso
        rw [List.getElem?_append_left hlt] at hi'
        exact h (List.mem_of_getElem? hi')
      · exact heq
      · exact absurd ((hat a.length).mpr (by simp)) (hmin a.length hgt)
  unfold Txt.splitMax
  rw [h1]
  have hlim : limitOf (S (a ++ c :: b)) 1 = 1 := rfl
  rw [hlim, hocc]
  simp only [Bool.false_eq_true, if_false, List.isEmpty_cons]
  rw [StrLaws.partsBetween_eq]
  show [Builtin.Str.strSub (S (a ++ c :: b)) 0 a.length, Builtin.Str.strSub (S (a ++ c :: b)) (a.length + (S [c]).length) (S (a ++ c :: b)).length] = _
  congr 1
  · refine ofL ?_
    rw [StrLaws.strSub_toList, S_toList]; simp
  · congr 1
    refine ofL ?_
    rw [StrLaws.strSub_toList, S_toList, S_len, S_len]
    rw [show a.length + [c].length = a.length + 1 from rfl, ← List.drop_drop]
    simp
    rw [List.take_of_length_le]; omega
theorem q_split1 {a b : List Nat} {c : Nat} {t u v : Tok} (hc : c ∉ a) (h : (a ++ c :: b).length + 2 ≤ 16777216) : Qt prog w A (call (.builtin "str.split") [.str (S (a ++ c :: b)) t, .str (S [c]) u, .int 1 v])
    (fun v s' => ∃ d t1 t2, v = .ref d ∧ s'.heap.IsList d [.str (S a) t1, .str (S b) t2].toArray) s := by
  have hsp := splitMax_S (b := b) hc
  have hk : (decide ((1 : Int) < -(2 ^ 63 : Int)) || decide ((1 : Int) ≥ 2 ^ 63)) = false := by decide
  unfold Txt.splitMax at hsp
  split at hsp
  · exact absurd (congrArg List.length hsp) (by simp)
  · rename_i h1
    split at hsp
    · exact absurd (congrArg List.length hsp) (by simp)
    · rename_i hf
      refine Qt.mk (call_meets PySem.F.slot_str_split (typeIs_str _ _ _) PySem.F.entry_str_split (PySem.F.args_str_split_3 _ _ _) (meets_str_split_sep_max (S (a ++ c :: b)) (S [c]) 1 t u v hk (by simpa using h1) rfl (by simpa using hf) (by rw [S_len, sizeLine_eq]; omega) (by rw [hsp, sizeLine_eq]; simp)) ?_)
      rw [hsp]
      exact ⟨⟨_, s.toks, s.toks + 1, rfl, ⟨_, Heap.get?_push_size _ rfl, rfl, _, rfl⟩⟩, _, _, rfl, fun _ _ e => Heap.get?_push_of_some _ e⟩
theorem q_add {x y : List Nat} {t u : Tok} (h : x.length + y.length ≤ 16777216) : Qt prog w A (binaryOp .Add (.str (S x) t) (.str (S y) u)) (fun v _ => ∃ t', v = .str (S (x ++ y)) t') s :=
  Qt.mk (SB.add (fun t' _ => ⟨⟨t', by rw [S_app]⟩, keeps_tok⟩) (by rw [S_len, S_len, sizeLine_eq]; exact h))
theorem slice_last (l : List Nat) : Txt.slice (S l) (some (-1)) none = S (l.drop (l.length - 1)) := by
  cases l with
  | nil => decide +kernel
  | cons a r =>
    have h := StrLaws.sliceText_from_neg (x := S (a :: r)) (i := -1) (by omega) (by rw [S_len]; simp; omega)
    show StrLaws.sliceText (S (a :: r)) (some (-1)) none = _
    rw [h]
    refine congrArg S ?_
    rw [S_toList, S_len]
    rw [List.take_of_length_le]
    · congr 1; simp; omega
    · simp; omega
theorem slice_init (l : List Nat) : Txt.slice (S l) none (some (-1)) = S l.dropLast := by
  cases l with
  | nil => decide +kernel
  | cons a r =>
    have h := StrLaws.sliceText_to_neg (x := S (a :: r)) (j := -1) (by omega) (by rw [S_len]; simp; omega)
    show StrLaws.sliceText (S (a :: r)) none (some (-1)) = _
    rw [h]
    refine congrArg S ?_
    rw [S_toList, S_len, List.drop_zero, List.dropLast_eq_take]
    congr 1; simp; omega
theorem q_addL {a b : Addr} {vs ws : List Value} (hl : s.heap.IsList a vs.toArray) (hb : s.heap.IsList b ws.toArray) (hsz : vs.length + ws.length ≤ 16777216) :
    Qt prog w A (binaryOp .Add (.ref a) (.ref b)) (fun v s' => ∃ d, v = .ref d ∧ s.heap.get? d = none ∧ s'.heap.PlainList d (vs ++ ws).toArray) s := by
  obtain ⟨⟨cls, dd, data, sl⟩, ho, hc, n, hd⟩ := id hl
  obtain ⟨⟨cls2, dd2, data2, sl2⟩, ho2, hc2, n2, hd2⟩ := id hb
  simp only at hc hd hc2 hd2
  subst hc hd hc2 hd2
  have e : vs.toArray ++ ws.toArray = (vs ++ ws).toArray := by simp
  refine Qt.mk (concat_meets ⟨_, ho, rfl⟩ ⟨_, ho2, rfl⟩ noFill_list_add seq_list_add PySem.F.slot_list_add PySem.F.entry_list_add (PySem.F.args_list_add_2 _ _) (list_addW a b vs.toArray ws.toArray n n2 dd dd2 sl sl2 (by rw [sizeLine_eq]; simpa using hsz)) ⟨ho, ho2, ?_⟩)
  rw [e]
  exact ⟨⟨_, rfl, none_size _, 0, Heap.get?_push_size _ rfl⟩, _, _, rfl, fun _ _ e => Heap.get?_push_of_some _ e⟩
end
theorem strs_take {vs : List Value} {ps : List (List Nat)} (h : StrsAre vs (ps.map S)) (n : Nat) : StrsAre (vs.take n) ((ps.take n).map S) := by
  generalize hq : ps.map S = qs at h
  induction h generalizing ps n with
  | nil => cases ps with
    | nil => simp; exact .nil
    | cons p r => cases hq
  | cons y t h ih =>
    cases ps with
    | nil => cases hq
    | cons p r =>
      cases hq
      cases n with
      | zero => exact .nil
      | succ n => exact .cons _ _ (ih n rfl)

theorem strs_signs {l : List Nat} {vs : List Value} (hl : vs.length = l.length) (hP : ∀ (j : Nat) v, vs[j]? = some v → SignAt (S l) j v) : StrsAre vs ((l.map fun c => [c]).map S) := by
  induction l generalizing vs with
  | nil => cases vs with
    | nil => exact .nil
    | cons v r => cases hl
  | cons c r ih =>
    cases vs with
    | nil => cases hl
    | cons v vs =>
      obtain ⟨c', u, hc, rfl⟩ := hP 0 v rfl
      have e : c' = c := by simpa using hc.symm
      subst e
      exact .cons _ _ (ih (by simpa using hl) fun j v hv => by
        obtain ⟨c'', u', h1, h2⟩ := hP (j + 1) v hv
        exact ⟨c'', u', by simpa using h1, h2⟩)
end Mine
end
section
open PySem PySem.W PyProof.Rows PySem.Calls
namespace Mine

/-- ab written as z, from the left -/
noncomputable def rep2 (a b z : Nat) : List Nat → List Nat
  | [] => []
  | [x] => [x]
  | x :: y :: r => if x = a ∧ y = b then z :: rep2 a b z r else x :: rep2 a b z (y :: r)
noncomputable def Occ (a b : Nat) (l : List Nat) (i : Nat) : Prop := l[i]? = some a ∧ l[i + 1]? = some b
theorem rep2_none (a b z : Nat) : ∀ l : List Nat, (∀ i, ¬ Occ a b l i) → rep2 a b z l = l
  | [], _ => rfl
  | [x], _ => rfl
  | x :: y :: r, h => by
    have h0 := h 0
    have hn : ¬ (x = a ∧ y = b) := fun q => h0 ⟨by simp [q.1], by simp [q.2]⟩
    unfold rep2
    rw [if_neg hn, rep2_none a b z (y :: r) fun i hi => h (i + 1) ⟨by simpa using hi.1, by simpa using hi.2⟩]
theorem rep2_app (a b z : Nat) (r : List Nat) : ∀ p : List Nat, (∀ i, i < p.length → ¬ Occ a b (p ++ a :: b :: r) i) → rep2 a b z (p ++ a :: b :: r) = p ++ z :: rep2 a b z r
  | [], _ => by simp [rep2]
  | [x], h => by
    have h0 := h 0 (by simp)
    have hn : ¬ (x = a ∧ a = b) := fun q => h0 ⟨by simp [q.1], by simp [q.2]⟩
    show rep2 a b z (x :: a :: b :: r) = x :: z :: rep2 a b z r
    rw [show rep2 a b z (x :: a :: b :: r) = if x = a ∧ a = b then z :: rep2 a b z (b :: r) else x :: rep2 a b z (a :: b :: r) from rfl, if_neg hn]
    simp [rep2]
  | x :: y :: p, h => by
    have h0 := h 0 (by simp)
    have hn : ¬ (x = a ∧ y = b) := fun q => h0 ⟨by simp [q.1], by simp [q.2]⟩
    have ih := rep2_app a b z r (y :: p) fun i hi hq => h (i + 1) (by simpa using hi) ⟨by simpa using hq.1, by simpa using hq.2⟩
    show rep2 a b z (x :: y :: (p ++ a :: b :: r)) = x :: y :: (p ++ z :: rep2 a b z r)
    rw [show rep2 a b z (x :: y :: (p ++ a :: b :: r)) = if x = a ∧ y = b then z :: rep2 a b z (p ++ a :: b :: r) else x :: rep2 a b z (y :: (p ++ a :: b :: r)) from rfl, if_neg hn]
    congr 1
theorem at_occ (l : List Nat) (a b i : Nat) : StrLaws.At (S l) (S [a, b]) (S l).length i ↔ Occ a b l i := by
  unfold StrLaws.At Occ
  rw [StrLaws.subAt_eq, S_toList, S_len, S_len, S_toList]
  show i + 2 ≤ l.length ∧ ((l.drop i).take 2 == [a, b]) = true ↔ _
  rw [beq_iff_eq]
  constructor
  · rintro ⟨h1, h2⟩
    have e1 := congrArg (fun l => l[0]?) h2
    have e2 := congrArg (fun l => l[1]?) h2
    simp [List.getElem?_take, List.getElem?_drop] at e1 e2
    exact ⟨e1, e2⟩
  · rintro ⟨h1, h2⟩
    have hl : i + 1 < l.length := (List.getElem?_eq_some_iff.mp h2).1
    refine ⟨by omega, ?_⟩
    refine List.ext_getElem? fun j => ?_
    match j with
    | 0 => simp [List.getElem?_take, List.getElem?_drop, h1]
    | 1 => simp [List.getElem?_take, List.getElem?_drop, h2]
    | j + 2 => simp [List.getElem?_take]; omega
theorem rep2_join (l : List Nat) (a b z : Nat) : ∀ (cuts : List Nat) (k f : Nat), StrLaws.ChainG (S l) (S [a, b]) (S l).length k cuts f → (∀ i, f ≤ i → ¬ StrLaws.At (S l) (S [a, b]) (S l).length i) →
    Str.join (S [z]) (StrLaws.partsFrom (S l) (S [a, b]).length k cuts) = S (rep2 a b z (l.drop k))
  | [], k, f, h, hn => by
    have e : f = k := h
    subst e
    have e1 : rep2 a b z (l.drop f) = l.drop f := rep2_none a b z _ fun i hi => hn (f + i) (by omega) ((at_occ l a b (f + i)).mpr ⟨by simpa using hi.1, by have := hi.2; rw [List.getElem?_drop] at this; exact this⟩)
    rw [e1]
    show Builtin.Str.strSub (S l) f (S l).length = _
    refine ofL ?_
    rw [StrLaws.strSub_toList, S_toList, S_len, List.take_of_length_le]
    simp
  | c :: r, k, f, h, hn => by
    obtain ⟨h1, h2, h3, h4⟩ := h
    have ih := rep2_join l a b z r _ f h4 hn
    have hoc := (at_occ l a b c).mp h2
    have hlt : c + 1 < l.length := (List.getElem?_eq_some_iff.mp hoc.2).1
    have ed : l.drop k = (l.drop k).take (c - k) ++ a :: b :: l.drop (c + 2) := by
      have e1 : l.drop c = a :: b :: l.drop (c + 2) := by
        rw [List.drop_eq_getElem_cons (by omega : c < l.length), List.drop_eq_getElem_cons (by omega : c + 1 < l.length)]
        have q1 := hoc.1
        have q2 := hoc.2
        rw [List.getElem?_eq_getElem (by omega)] at q1 q2
        rw [Option.some.inj q1, Option.some.inj q2]
      have e2 := List.take_append_drop (c - k) (l.drop k)
      rw [List.drop_drop, show k + (c - k) = c from by omega, e1] at e2
      exact e2.symm
    have hne : StrLaws.partsFrom (S l) (S [a, b]).length (c + (S [a, b]).length) r ≠ [] := by
      obtain ⟨p, q, e⟩ := StrLaws.partsFrom_ne (S l) (S [a, b]).length (c + (S [a, b]).length) r
      rw [e]; simp
    have ej : Str.join (S [z]) (StrLaws.partsFrom (S l) (S [a, b]).length k (c :: r)) = Builtin.Str.strSub (S l) k c ++ S [z] ++ Str.join (S [z]) (StrLaws.partsFrom (S l) (S [a, b]).length (c + (S [a, b]).length) r) := by
      show Str.join (S [z]) (Builtin.Str.strSub (S l) k c :: StrLaws.partsFrom (S l) (S [a, b]).length (c + (S [a, b]).length) r) = _
      cases hq : StrLaws.partsFrom (S l) (S [a, b]).length (c + (S [a, b]).length) r with
      | nil => exact absurd hq hne
      | cons p q => rfl
    rw [ej, ih]
    have es : Builtin.Str.strSub (S l) k c = S ((l.drop k).take (c - k)) := ofL (by rw [StrLaws.strSub_toList, S_toList])
    rw [es, S_app, S_app]
    congr 1
    have hl : ((l.drop k).take (c - k)).length = c - k := by rw [List.length_take, List.length_drop]; omega
    conv => rhs; rw [ed]
    rw [rep2_app a b z _ _ fun i hi hq => ?_]
    · simp [S_len]
    · rw [← ed] at hq
      rw [hl] at hi
      exact h3 (k + i) (by omega) (by omega) ((at_occ l a b (k + i)).mpr ⟨by simpa using hq.1, by have := hq.2; rw [List.getElem?_drop] at this; exact this⟩)
theorem replace2_S (l : List Nat) (a b z : Nat) : Txt.replace (S l) (S [a, b]) (S [z]) = S (rep2 a b z l) := by
  obtain ⟨f, hf, hn⟩ := StrLaws.occ_tight (S l) (S [a, b]) (by rw [S_len]; simp)
  have hj := rep2_join l a b z _ 0 f hf hn
  rw [List.drop_zero] at hj
  unfold Txt.replace
  split
  · rename_i h
    have he : Builtin.Str.occurrences (S l) (S [a, b]) 0 (S l).length ((S l).length + 1) = [] := by
      have h2 : Builtin.Str.occurrences (S l) (S [a, b]) 0 (S l).length ((S l).length + 1) = [] ∨ (S [a, b]).length = 0 ∧ (S [z]).length = 0 := by simpa using h
      rcases h2 with h2 | h2
      · exact h2
      · exact absurd h2.1 (by rw [S_len]; simp)
    rw [he] at hj
    rw [← hj]
    show S l = Builtin.Str.strSub (S l) 0 (S l).length
    exact (StrLaws.sub_whole _).symm
  · rw [StrLaws.glued_eq_join, StrLaws.partsBetween_eq]; exact hj

/-- the two marks of what stands behind a quote -/
noncomputable def mkm : List Nat → List Nat
  | [] => []
  | [x] => [x]
  | x :: y :: r => if x = 92 ∧ y = 92 then 2 :: mkm r else if x = 92 ∧ y = 34 then 1 :: mkm r else x :: mkm (y :: r)
theorem rep2_cons_ne {a b z x : Nat} (h : x ≠ a) (R : List Nat) : rep2 a b z (x :: R) = x :: rep2 a b z R := by
  cases R with
  | nil => rfl
  | cons y R => rw [show rep2 a b z (x :: y :: R) = if x = a ∧ y = b then z :: rep2 a b z R else x :: rep2 a b z (y :: R) from rfl, if_neg fun q => h q.1]
theorem rep2_eq (a b z x y : Nat) (r : List Nat) : rep2 a b z (x :: y :: r) = if x = a ∧ y = b then z :: rep2 a b z r else x :: rep2 a b z (y :: r) := rfl
theorem mkm_eq (x y : Nat) (r : List Nat) : mkm (x :: y :: r) = if x = 92 ∧ y = 92 then 2 :: mkm r else if x = 92 ∧ y = 34 then 1 :: mkm r else x :: mkm (y :: r) := rfl
theorem mkm_rep : ∀ (n : Nat) (l : List Nat), l.length ≤ n → rep2 92 34 1 (rep2 92 92 2 l) = mkm l
  | _, [], _ => rfl
  | _, [x], _ => rfl
  | 0, _ :: _ :: _, h => by simp at h
  | n + 1, x :: y :: r, h => by
    have hr : r.length ≤ n := by simp at h; omega
    have hyr : (y :: r).length ≤ n := by simp at h ⊢; omega
    rw [mkm_eq, rep2_eq]
    by_cases h1 : x = 92 ∧ y = 92
    · rw [if_pos h1, if_pos h1, rep2_cons_ne (by decide), mkm_rep n r hr]
    · rw [if_neg h1, if_neg h1]
      by_cases h2 : x = 92 ∧ y = 34
      · rw [if_pos h2]
        obtain ⟨rfl, rfl⟩ := h2
        rw [rep2_cons_ne (a := 92) (by decide : (34 : Nat) ≠ 92), rep2_eq, if_pos ⟨rfl, rfl⟩, mkm_rep n r hr]
      · rw [if_neg h2]
        by_cases hx : x = 92
        · subst hx
          have hy92 : y ≠ 92 := fun e => h1 ⟨rfl, e⟩
          have hy34 : y ≠ 34 := fun e => h2 ⟨rfl, e⟩
          have ih := mkm_rep n (y :: r) hyr
          rw [rep2_cons_ne (a := 92) hy92] at ih ⊢
          rw [rep2_eq, if_neg fun q => hy34 q.2, ih]
        · rw [rep2_cons_ne hx, mkm_rep n (y :: r) hyr]
/-- the marks undone -/
noncomputable def um (l : List Nat) : List Nat := (l.flatMap fun d => if d = 1 then [92, 34] else [d]).flatMap fun d => if d = 2 then [92, 92] else [d]
theorem um_app (a b : List Nat) : um (a ++ b) = um a ++ um b := by unfold um; rw [List.flatMap_append, List.flatMap_append]
theorem um_cons (x : Nat) (r : List Nat) : um (x :: r) = um [x] ++ um r := um_app [x] r
theorem um_one {x : Nat} (h1 : x ≠ 1) (h2 : x ≠ 2) : um [x] = [x] := by simp [um, h1, h2]
theorem um_mk : ∀ (n : Nat) (l : List Nat), l.length ≤ n → 1 ∉ l → 2 ∉ l → um (mkm l) = l
  | _, [], _, _, _ => rfl
  | _, [x], _, h1, h2 => um_one (by rintro rfl; simp at h1) (by rintro rfl; simp at h2)
  | 0, _ :: _ :: _, h, _, _ => by simp at h
  | n + 1, x :: y :: r, h, h1, h2 => by
    have hr : r.length ≤ n := by simp at h; omega
    have hyr : (y :: r).length ≤ n := by simp at h ⊢; omega
    have r1 : 1 ∉ r := fun q => h1 (by simp [q])
    have r2 : 2 ∉ r := fun q => h2 (by simp [q])
    rw [mkm_eq]
    by_cases c1 : x = 92 ∧ y = 92
    · rw [if_pos c1, um_cons, um_mk n r hr r1 r2, c1.1, c1.2]; rfl
    · rw [if_neg c1]
      by_cases c2 : x = 92 ∧ y = 34
      · rw [if_pos c2, um_cons, um_mk n r hr r1 r2, c2.1, c2.2]; rfl
      · rw [if_neg c2, um_cons, um_mk n (y :: r) hyr (fun q => h1 (List.mem_cons_of_mem _ q)) (fun q => h2 (List.mem_cons_of_mem _ q)),
          um_one (by rintro rfl; simp at h1) (by rintro rfl; simp at h2)]; rfl

noncomputable def run (st : PSt) (l : List Nat) : PSt := l.foldl pstep st
theorem run_cons (st : PSt) (c : Nat) (l : List Nat) : run st (c :: l) = run (pstep st c) l := rfl
theorem run_app (st : PSt) (a b : List Nat) : run st (a ++ b) = run (run st a) b := by unfold run; rw [List.foldl_append]
noncomputable def d12 (c : Nat) : Nat := if c = 1 then 34 else if c = 2 then 92 else c
/-- what quoted marks say -/
noncomputable def dec (l : List Nat) : List Nat := (l.filter (· != 92)).map d12
theorem dec_cons {x : Nat} (h : x ≠ 92) (l : List Nat) : dec (x :: l) = d12 x :: dec l := by simp [dec, h]
theorem dec_92 (l : List Nat) : dec (92 :: l) = dec l := by simp [dec]
theorem d12_of {x : Nat} (h1 : x ≠ 1) (h2 : x ≠ 2) : d12 x = x := by simp [d12, h1, h2]

/-- a quoted stretch, read -/
theorem quoted : ∀ (n : Nat) (b : List Nat), b.length ≤ n → 1 ∉ b → 2 ∉ b → ∀ (rs : List (List Nat)) (pt : List Nat),
    (∃ inner left pre, mkm b = inner ++ 34 :: left ∧ 34 ∉ inner ∧ b = pre ++ 34 :: um left ∧ run ⟨rs, pt, false, true⟩ (pre ++ [34]) = ⟨rs, pt ++ dec inner ++ [34], false, false⟩) ∨
    (34 ∉ mkm b ∧ ∃ e, run ⟨rs, pt, false, true⟩ b = ⟨rs, pt ++ dec (mkm b), e, true⟩)
  | _, [], _, _, _, rs, pt => .inr ⟨by simp [mkm], false, by simp [run, mkm, dec]⟩
  | _, [x], _, h1, h2, rs, pt => by
    have x1 : x ≠ 1 := by rintro rfl; simp at h1
    have x2 : x ≠ 2 := by rintro rfl; simp at h2
    by_cases e34 : x = 34
    · subst e34
      exact .inl ⟨[], [], [], rfl, by simp, rfl, by simp [run, pstep, dec]⟩
    · by_cases e92 : x = 92
      · subst e92
        exact .inr ⟨by simp [mkm], true, by simp [run, pstep, mkm, dec]⟩
      · refine .inr ⟨by simp [mkm]; omega, false, ?_⟩
        simp [run, pstep, mkm, dec, e92, e34, d12_of x1 x2]
  | 0, _ :: _ :: _, h, _, _, _, _ => by simp at h
  | n + 1, x :: y :: r, h, h1, h2, rs, pt => by
    have hr : r.length ≤ n := by simp at h; omega
    have hyr : (y :: r).length ≤ n := by simp at h ⊢; omega
    have r1 : 1 ∉ r := fun q => h1 (by simp [q])
    have r2 : 2 ∉ r := fun q => h2 (by simp [q])
    have x1 : x ≠ 1 := by rintro rfl; simp at h1
    have x2 : x ≠ 2 := by rintro rfl; simp at h2
    have yr1 : 1 ∉ y :: r := fun q => h1 (List.mem_cons_of_mem _ q)
    have yr2 : 2 ∉ y :: r := fun q => h2 (List.mem_cons_of_mem _ q)
    rw [mkm_eq]
    by_cases c1 : x = 92 ∧ y = 92
    · obtain ⟨rfl, rfl⟩ := c1
      rw [if_pos ⟨rfl, rfl⟩]
      have hs : ∀ t, run ⟨rs, pt, false, true⟩ (92 :: 92 :: t) = run ⟨rs, pt ++ [92], false, true⟩ t := fun t => by rw [run_cons, run_cons]; rfl
      rcases quoted n r hr r1 r2 rs (pt ++ [92]) with ⟨inner, left, pre, e1, e2, e3, e4⟩ | ⟨e1, e, e2⟩
      · refine .inl ⟨2 :: inner, left, 92 :: 92 :: pre, by rw [e1]; rfl, by simpa using e2, by rw [e3]; rfl, ?_⟩
        show run _ (92 :: 92 :: (pre ++ [34])) = _
        rw [hs, e4, dec_cons (by decide)]; simp [d12]
      · refine .inr ⟨by simpa using e1, e, ?_⟩
        rw [hs, e2, dec_cons (by decide)]; simp [d12]
    · rw [if_neg c1]
      by_cases c2 : x = 92 ∧ y = 34
      · obtain ⟨rfl, rfl⟩ := c2
        rw [if_pos ⟨rfl, rfl⟩]
        have hs : ∀ t, run ⟨rs, pt, false, true⟩ (92 :: 34 :: t) = run ⟨rs, pt ++ [34], false, true⟩ t := fun t => by rw [run_cons, run_cons]; rfl
        rcases quoted n r hr r1 r2 rs (pt ++ [34]) with ⟨inner, left, pre, e1, e2, e3, e4⟩ | ⟨e1, e, e2⟩
        · refine .inl ⟨1 :: inner, left, 92 :: 34 :: pre, by rw [e1]; rfl, by simpa using e2, by rw [e3]; rfl, ?_⟩
          show run _ (92 :: 34 :: (pre ++ [34])) = _
          rw [hs, e4, dec_cons (by decide)]; simp [d12]
        · refine .inr ⟨by simpa using e1, e, ?_⟩
          rw [hs, e2, dec_cons (by decide)]; simp [d12]
      · rw [if_neg c2]
        by_cases e34 : x = 34
        · subst e34
          refine .inl ⟨[], mkm (y :: r), [], rfl, by simp, ?_, by simp [run, pstep, dec]⟩
          rw [um_mk n (y :: r) hyr yr1 yr2]; rfl
        · by_cases e92 : x = 92
          · subst e92
            have y92 : y ≠ 92 := fun e => c1 ⟨rfl, e⟩
            have y34 : y ≠ 34 := fun e => c2 ⟨rfl, e⟩
            have hs : ∀ t, run ⟨rs, pt, false, true⟩ (92 :: y :: t) = run ⟨rs, pt, false, true⟩ (y :: t) := fun t => by
              rw [run_cons, run_cons, run_cons]
              simp [pstep, y92, y34]
            rcases quoted n (y :: r) hyr yr1 yr2 rs pt with ⟨inner, left, pre, e1, e2, e3, e4⟩ | ⟨e1, e, e2⟩
            · cases pre with
              | nil => simp at e3; exact absurd e3.1 y34
              | cons p pre =>
                have hp : y = p := by simp at e3; exact e3.1
                subst hp
                refine .inl ⟨92 :: inner, left, 92 :: y :: pre, by rw [e1]; rfl, by simpa using e2, by rw [e3]; rfl, ?_⟩
                show run _ (92 :: y :: (pre ++ [34])) = _
                rw [hs, dec_92]; exact e4
            · refine .inr ⟨by simpa using e1, e, ?_⟩
              rw [hs, dec_92]; exact e2
          · have hs : ∀ t, run ⟨rs, pt, false, true⟩ (x :: t) = run ⟨rs, pt ++ [x], false, true⟩ t := fun t => by
              rw [run_cons]; simp [pstep, e92, e34]
            rcases quoted n (y :: r) hyr yr1 yr2 rs (pt ++ [x]) with ⟨inner, left, pre, e1, e2, e3, e4⟩ | ⟨e1, e, e2⟩
            · refine .inl ⟨x :: inner, left, x :: pre, by rw [e1]; rfl, by simp [e2]; omega, by rw [e3]; rfl, ?_⟩
              show run _ (x :: (pre ++ [34])) = _
              rw [hs, e4, dec_cons e92, d12_of x1 x2]; simp
            · refine .inr ⟨by simp [e1]; omega, e, ?_⟩
              rw [hs, e2, dec_cons e92, d12_of x1 x2]; simp

noncomputable def e3 (c : Nat) : Nat := if c = 44 then 3 else c
/-- the pieces so far as one text; a comma within a piece as a mark -/
noncomputable def enc (st : PSt) : List Nat := joinL [44] ((st.res ++ [st.part]).map (·.map e3))
theorem joinL_cons (s x : List Nat) {r : List (List Nat)} (h : r ≠ []) : joinL s (x :: r) = x ++ s ++ joinL s r := by
  cases r with
  | nil => exact absurd rfl h
  | cons y r => rfl
theorem joinL_last (s p q : List Nat) : ∀ xs : List (List Nat), joinL s (xs ++ [p ++ q]) = joinL s (xs ++ [p]) ++ q
  | [] => rfl
  | x :: r => by
    show joinL s (x :: (r ++ [p ++ q])) = joinL s (x :: (r ++ [p])) ++ q
    rw [joinL_cons s x (by simp), joinL_cons s x (by simp), joinL_last s p q r]
    simp
theorem joinL_snoc (s p : List Nat) : ∀ xs : List (List Nat), xs ≠ [] → joinL s (xs ++ [p]) = joinL s xs ++ s ++ p
  | [], h => absurd rfl h
  | [x], _ => rfl
  | x :: y :: r, _ => by
    show joinL s (x :: (y :: r ++ [p])) = _
    rw [joinL_cons s x (by simp), joinL_snoc s p (y :: r) (by simp), joinL_cons s x (by simp)]
    simp
theorem enc_part (rs : List (List Nat)) (pt q : List Nat) (e k e' k' : Bool) : enc ⟨rs, pt ++ q, e, k⟩ = enc ⟨rs, pt, e', k'⟩ ++ q.map e3 := by
  unfold enc
  dsimp only
  rw [List.map_append, List.map_append, List.map_cons, List.map_nil, List.map_append, List.map_cons, List.map_nil, joinL_last]
theorem enc_comma (rs : List (List Nat)) (pt : List Nat) (e k e' k' : Bool) : enc ⟨rs ++ [pt], [], e, k⟩ = enc ⟨rs, pt, e', k'⟩ ++ [44] := by
  unfold enc
  dsimp only
  have e0 : ([[]] : List (List Nat)).map (fun p => p.map e3) = [[]] := rfl
  rw [List.map_append, e0, joinL_snoc _ _ _ (by simp)]
  simp
theorem enc_flags (rs : List (List Nat)) (pt : List Nat) (e k e' k' : Bool) : enc ⟨rs, pt, e, k⟩ = enc ⟨rs, pt, e', k'⟩ := rfl
theorem plain_run : ∀ (t : List Nat), 34 ∉ t → ∀ rs pt, ∃ rs' pt', run ⟨rs, pt, false, false⟩ t = ⟨rs', pt', false, false⟩ ∧ enc ⟨rs', pt', false, false⟩ = enc ⟨rs, pt, false, false⟩ ++ t
  | [], _, rs, pt => ⟨rs, pt, rfl, by simp⟩
  | c :: r, h, rs, pt => by
    have hc : c ≠ 34 := fun e => h (by simp [e])
    have hr : 34 ∉ r := fun e => h (by simp [e])
    by_cases h44 : c = 44
    · subst h44
      obtain ⟨rs', pt', e1, e2⟩ := plain_run r hr (rs ++ [pt]) []
      refine ⟨rs', pt', ?_, ?_⟩
      · rw [run_cons]; simpa [pstep] using e1
      · rw [e2, enc_comma rs pt false false false false]; simp
    · obtain ⟨rs', pt', e1, e2⟩ := plain_run r hr rs (pt ++ [c])
      refine ⟨rs', pt', ?_, ?_⟩
      · rw [run_cons]; simpa [pstep, h44, hc] using e1
      · rw [e2, enc_part rs pt [c] false false false false]; simp [e3, h44]
noncomputable def init : PSt := ⟨[], [], false, false⟩
structure AInv (l dn rest : List Nat) : Prop where
  inv : ∃ pre, l = pre ++ rest ∧ dn.map d12 = enc (run init pre) ∧ (rest = [] ∨ ((run init pre).esc = false ∧ (run init pre).quo = false))
theorem AInv.start (l : List Nat) : AInv l [] l := ⟨[], rfl, rfl, .inr ⟨rfl, rfl⟩⟩
noncomputable def inn (l : List Nat) : List Nat := (l.flatMap fun d => if d = 92 then [] else [d]).flatMap fun d => if d = 44 then [3] else [d]
theorem inn_eq (l : List Nat) : inn l = (l.filter (· != 92)).map e3 := by
  unfold inn
  induction l with
  | nil => rfl
  | cons c r ih =>
    rw [List.flatMap_cons, List.flatMap_append, ih]
    by_cases h : c = 92
    · subst h; simp
    · by_cases h4 : c = 44
      · subst h4; simp [e3]
      · simp [h, h4, e3]
theorem inn_d12 (l : List Nat) : (inn l).map d12 = (dec l).map e3 := by
  rw [inn_eq]
  unfold dec
  rw [List.map_map, List.map_map]
  refine List.map_congr_left fun c _ => ?_
  simp only [Function.comp, d12, e3]
  by_cases h1 : c = 1
  · subst h1; rfl
  · by_cases h2 : c = 2
    · subst h2; rfl
    · by_cases h4 : c = 44
      · subst h4; rfl
      · simp [h1, h2, h4]
theorem map_d12_id {l : List Nat} (h1 : 1 ∉ l) (h2 : 2 ∉ l) : l.map d12 = l := by
  conv => rhs; rw [← List.map_id l]
  refine List.map_congr_left fun c hc => d12_of (fun e => h1 (e ▸ hc)) (fun e => h2 (e ▸ hc))
theorem st_eta (st : PSt) (h1 : st.esc = false) (h2 : st.quo = false) : st = ⟨st.res, st.part, false, false⟩ := by cases st; simp_all
/-- one turn of the loop -/
theorem AInv.step {l dn ah bh : List Nat} (I : AInv l dn (ah ++ 34 :: bh)) (ha : 34 ∉ ah) (l1 : 1 ∉ l) (l2 : 2 ∉ l) :
    (∃ inner left, mkm bh = inner ++ 34 :: left ∧ 34 ∉ inner ∧ AInv l (dn ++ (ah ++ [34] ++ inn inner ++ [34])) (um left) ∧ (um left).length < bh.length + 1) ∨
    (34 ∉ mkm bh ∧ AInv l (dn ++ (ah ++ [34] ++ inn (mkm bh) ++ [])) []) := by
  obtain ⟨pre, e1, e2, e3'⟩ := I.inv
  have hq : (run init pre).esc = false ∧ (run init pre).quo = false := by
    rcases e3' with h | h
    · simp at h
    · exact h
  have hst := st_eta _ hq.1 hq.2
  obtain ⟨rs', pt', p1, p2⟩ := plain_run ah ha (run init pre).res (run init pre).part
  have mem : ∀ c, c ∈ ah ++ 34 :: bh → c ∈ l := fun c hc => by rw [e1]; exact List.mem_append_right _ hc
  have ah1 : 1 ∉ ah := fun q => l1 (mem 1 (by simp [q]))
  have ah2 : 2 ∉ ah := fun q => l2 (mem 2 (by simp [q]))
  have bh1 : 1 ∉ bh := fun q => l1 (mem 1 (by simp [q]))
  have bh2 : 2 ∉ bh := fun q => l2 (mem 2 (by simp [q]))
  have r1 : run init (pre ++ ah ++ [34]) = ⟨rs', pt' ++ [34], false, true⟩ := by
    rw [run_app, run_app, hst, p1]; rfl
  have en1 : (dn ++ (ah ++ [34])).map d12 = enc ⟨rs', pt' ++ [34], false, true⟩ := by
    rw [enc_part rs' pt' [34] false true false false, p2, List.map_append, e2, hst, List.map_append, map_d12_id ah1 ah2]
    simp [d12, e3]
  rcases quoted bh.length bh (Nat.le_refl _) bh1 bh2 rs' (pt' ++ [34]) with ⟨inner, left, pr, q1, q2, q3, q4⟩ | ⟨q1, e, q2⟩
  · refine .inl ⟨inner, left, q1, q2, ⟨pre ++ ah ++ [34] ++ (pr ++ [34]), ?_, ?_, ?_⟩, ?_⟩
    · rw [e1, q3]; simp
    · rw [run_app, r1, q4, show pt' ++ [34] ++ dec inner ++ [34] = (pt' ++ [34]) ++ (dec inner ++ [34]) from by simp, enc_part rs' (pt' ++ [34]) (dec inner ++ [34]) false false false true, ← en1]
      simp only [List.map_append, inn_d12, List.append_assoc]
      simp [d12, e3]
    · rw [run_app, r1, q4]; exact .inr ⟨rfl, rfl⟩
    · have := congrArg List.length q3
      simp at this; omega
  · refine .inr ⟨q1, ⟨pre ++ ah ++ [34] ++ bh, ?_, ?_, .inl rfl⟩⟩
    · rw [e1]; simp
    · rw [run_app, r1, q2, enc_part rs' (pt' ++ [34]) (dec (mkm bh)) e true false true, ← en1]
      simp only [List.map_append, inn_d12, List.append_assoc]
      simp
noncomputable def d3 (c : Nat) : Nat := if c = 3 then 44 else c
theorem splitL_map {f : Nat → Nat} {c : Nat} (h : ∀ d, f d = c ↔ d = c) : ∀ l : List Nat, splitL c (l.map f) = (splitL c l).map (·.map f)
  | [] => rfl
  | d :: r => by
    have ih := splitL_map h r
    have e : splitL c (f d :: r.map f) = if f d = c then [] :: splitL c (r.map f) else match splitL c (r.map f) with
      | [] => [[f d]]
      | p :: q => (f d :: p) :: q := rfl
    have e' : splitL c (d :: r) = if d = c then [] :: splitL c r else match splitL c r with
      | [] => [[d]]
      | p :: q => (d :: p) :: q := rfl
    rw [List.map_cons, e, e', ih]
    by_cases hd : d = c
    · rw [if_pos ((h d).mpr hd), if_pos hd]; rfl
    · rw [if_neg (fun q => hd ((h d).mp q)), if_neg hd]
      cases splitL c r <;> rfl
noncomputable def filledL (ps : List (List Nat)) : List (List Nat) := if ps.getLast? = some [] then ps.dropLast else ps
theorem filledL_map (f : List Nat → List Nat) (h : ∀ p, f p = [] ↔ p = []) (ps : List (List Nat)) : (filledL ps).map f = filledL (ps.map f) := by
  unfold filledL
  rw [List.getLast?_map]
  cases hl : ps.getLast? with
  | none => simp
  | some p =>
    by_cases hp : p = []
    · subst hp; simp [(h []).mpr rfl, List.map_dropLast]
    · have : f p ≠ [] := fun q => hp ((h p).mp q)
      simp [hp, this]
theorem e3_d3 {p : List Nat} (h : 3 ∉ p) : (p.map e3).map d3 = p := by
  rw [List.map_map]
  conv => rhs; rw [← List.map_id p]
  refine List.map_congr_left fun c hc => ?_
  have hc3 : c ≠ 3 := fun e => h (e ▸ hc)
  simp only [Function.comp, e3, d3, id]
  by_cases h4 : c = 44
  · subst h4; rfl
  · simp [h4, hc3]
theorem pstep_sub (st : PSt) (c d : Nat) (hd : ∀ p ∈ (pstep st c).res ++ [(pstep st c).part], d ∈ p → (∃ q ∈ st.res ++ [st.part], d ∈ q) ∨ d = c) : True := trivial
theorem run_free {d : Nat} : ∀ (t : List Nat), d ∉ t → ∀ st : PSt, (∀ p ∈ st.res ++ [st.part], d ∉ p) → ∀ p ∈ (run st t).res ++ [(run st t).part], d ∉ p
  | [], _, st, h => h
  | c :: r, hd, st, h => by
    have hc : d ≠ c := fun e => hd (by simp [e])
    have hr : d ∉ r := fun e => hd (by simp [e])
    rw [run_cons]
    refine run_free r hr _ ?_
    have hp := h st.part (by simp)
    have hrs : ∀ p ∈ st.res, d ∉ p := fun p hq => h p (by simp [hq])
    intro p hm
    unfold pstep at hm
    split at hm
    · rcases List.mem_append.mp hm with hm | hm
      · exact hrs p hm
      · rw [List.mem_singleton.mp hm]; simp [hp, hc]
    · split at hm
      · split at hm
        · rcases List.mem_append.mp hm with hm | hm
          · exact hrs p hm
          · rw [List.mem_singleton.mp hm]; exact hp
        · rcases List.mem_append.mp hm with hm | hm
          · exact hrs p hm
          · rw [List.mem_singleton.mp hm]; simp [hp, hc]
      · split at hm
        · rcases List.mem_append.mp hm with hm | hm
          · rcases List.mem_append.mp hm with hm | hm
            · exact hrs p hm
            · rw [List.mem_singleton.mp hm]; exact hp
          · rw [List.mem_singleton.mp hm]; simp
        · rcases List.mem_append.mp hm with hm | hm
          · exact hrs p hm
          · rw [List.mem_singleton.mp hm]; simp [hp, hc]
/-- the loop's end -/
theorem AInv.fin {l dn rest : List Nat} (I : AInv l dn rest) (hr : 34 ∉ rest) (l1 : 1 ∉ l) (l2 : 2 ∉ l) (l3 : 3 ∉ l) :
    (filledL (splitL 44 (dn ++ rest))).map (fun p => (p.map d12).map d3) = parseR l := by
  obtain ⟨pre, e1, e2, e3'⟩ := I.inv
  have hall : (dn ++ rest).map d12 = enc (run init l) := by
    rcases e3' with h | h
    · subst h; rw [List.append_nil] at e1 ⊢; rw [e1, e2]
    · have hst := st_eta _ h.1 h.2
      obtain ⟨rs', pt', p1, p2⟩ := plain_run rest hr (run init pre).res (run init pre).part
      have rest1 : 1 ∉ rest := fun q => l1 (by rw [e1]; simp [q])
      have rest2 : 2 ∉ rest := fun q => l2 (by rw [e1]; simp [q])
      rw [e1, run_app, hst, p1, p2, List.map_append, e2, hst, map_d12_id rest1 rest2]
  have hd12 : ∀ d, d12 d = 44 ↔ d = 44 := by
    intro d
    unfold d12
    by_cases h1 : d = 1
    · subst h1; simp
    · by_cases h2 : d = 2
      · subst h2; simp
      · simp [h1, h2]
  have hsp := splitL_map hd12 (dn ++ rest)
  rw [hall] at hsp
  have hfree := run_free l l3 init (by simp [init])
  unfold enc at hsp
  rw [splitL_join 44 _ (by simp) (by
    intro p hp
    obtain ⟨q, _, rfl⟩ := List.mem_map.mp hp
    intro hm
    obtain ⟨c, _, hc⟩ := List.mem_map.mp hm
    unfold e3 at hc
    split at hc
    · cases hc
    · rename_i hne; exact hne hc)] at hsp
  rw [show (fun p : List Nat => (p.map d12).map d3) = (fun p => p.map d3) ∘ (fun p => p.map d12) from rfl, ← List.map_map, filledL_map (·.map d12) (by simp), ← hsp, filledL_map (·.map d3) (by simp), List.map_map]
  have e4 : ((run init l).res ++ [(run init l).part]).map ((fun p => p.map d3) ∘ fun p => p.map e3) = (run init l).res ++ [(run init l).part] := by
    conv => rhs; rw [← List.map_id ((run init l).res ++ [(run init l).part])]
    exact List.map_congr_left fun p hp => e3_d3 (hfree p hp)
  rw [e4]
  show filledL ((pfold l).res ++ [(pfold l).part]) = parseR l
  unfold filledL parseR
  by_cases hp : (pfold l).part = []
  · simp [hp]
  · simp [hp]
theorem enc_len (st : PSt) (c : Nat) : (enc (pstep st c)).length ≤ (enc st).length + 1 := by
  obtain ⟨rs, pt, e, k⟩ := st
  unfold pstep
  dsimp only
  split
  · rw [enc_part rs pt [c] _ _ e k]; simp
  · split
    · split
      · rw [enc_flags rs pt _ _ e k]; omega
      · rw [enc_part rs pt [c] _ _ e k]; simp
    · split
      · rw [enc_comma rs pt _ _ e k]; simp
      · rw [enc_part rs pt [c] _ _ e k]; simp
theorem enc_run_len : ∀ (t : List Nat) (st : PSt), (enc (run st t)).length ≤ (enc st).length + t.length
  | [], st => by simp [run]
  | c :: r, st => by
    have h1 := enc_run_len r (pstep st c)
    have h2 := enc_len st c
    rw [run_cons, List.length_cons]; omega
theorem AInv.len {l dn rest : List Nat} (I : AInv l dn rest) : dn.length + rest.length ≤ l.length ∧ ∀ c ∈ rest, c ∈ l := by
  obtain ⟨pre, e1, e2, _⟩ := I.inv
  have h1 := congrArg List.length e2
  have h2 := enc_run_len pre init
  have h3 : (enc init).length = 0 := rfl
  rw [List.length_map] at h1
  refine ⟨?_, fun c hc => by rw [e1]; simp [hc]⟩
  have := congrArg List.length e1
  rw [List.length_append] at this
  omega
theorem mkm_len : ∀ (n : Nat) (l : List Nat), l.length ≤ n → (mkm l).length ≤ l.length
  | _, [], _ => by simp [mkm]
  | _, [x], _ => by simp [mkm]
  | 0, _ :: _ :: _, h => by simp at h
  | n + 1, x :: y :: r, h => by
    have hr : r.length ≤ n := by simp at h; omega
    have hyr : (y :: r).length ≤ n := by simp at h ⊢; omega
    have a := mkm_len n r hr
    have b := mkm_len n (y :: r) hyr
    rw [mkm_eq]
    split
    · simp; omega
    · split
      · simp; omega
      · simp at b ⊢; omega
end Mine
end
section
open PySem PySem.W PyProof.Rows PySem.Calls
namespace Mine
section
variable {prog : Program} {w : World} {A : Around} {E : Value → Shared → Prop} {s : Shared}
theorem draw_walk {I : Addr} {fp : List Addr} {n : Nat} {P : Nat → Value → Prop} {St : Nat → Heap → Prop} (W : Walks prog w A I fp [I] n P St) : ∀ (k i : Nat) (s : Shared), i + k ≤ n → St i s.heap →
    wpAny (model prog w) A (draw (.ref I) k) (fun vs s' => vs.length = k ∧ (∀ (j : Nat) v, vs[j]? = some v → P (i + j) v) ∧ St (i + k) s'.heap ∧ Up (· = I) s s') (fun _ _ => False) s
  | 0, i, s, _, hst => wpAny_pure ⟨rfl, by simp, hst, Up.refl _ _⟩
  | k + 1, i, s, hk, hst => by
    show wpAny _ _ (pyNext (.ref I) >>= _) _ _ s
    refine wpAny_bind (wpAny_with_toks (n := s.toks) (Nat.le_refl _) (W.item i s _ _ (by omega) hst fun v h' tk hP hst' hk' htk => ?_))
    have u : Up (· = I) s { s with heap := h', toks := tk } := ⟨⟨h', tk, rfl⟩, fun b o hb e => hk' b o (fun hm => hb (List.mem_singleton.mp hm)) e, htk⟩
    refine wpAny_bind (wpAny_holding (wpAny_mono (draw_walk W k (i + 1) _ (by omega) hst') (fun vs s₂ h₂ => wpAny_pure ?_) fun _ _ f => f))
    obtain ⟨h1, h2, h3, h4⟩ := h₂
    refine ⟨by simp [h1], fun j v hj => ?_, by rw [show i + (k + 1) = i + 1 + k from by omega]; exact h3, u.trans h4⟩
    cases j with
    | zero => simp at hj; subst hj; exact hP
    | succ j => have := h2 j v (by simpa using hj); rw [show i + (j + 1) = i + 1 + j from by omega]; exact this
theorem q_unpack {v : Value} {n : Nat} {P : Nat → Value → Prop} {Y : List Addr} (hA : A.handled = none) (hs : Src prog w v s n P Y) (hi : ∀ (Q : Bool → Shared → Prop) (E : Value → Shared → Prop), Q false s → wpAny (model prog w) A (notIterableAtAll v) Q E s) :
    Qt prog w A (unpackItems v n none) (fun vs _ => vs.length = n ∧ ∀ (j : Nat) x, vs[j]? = some x → P j x) s := by
  unfold unpackItems
  refine wpAny_bind (hi _ _ ?_)
  simp only [Bool.false_eq_true, if_false]
  refine wpAny_bind (wpAny_holding (hs _ _ _ fun I St s₂ hW hst hIt hsz k₂ hI => ?_))
  have W := hW A hA
  refine wpAny_bind (wpAny_holding (wpAny_mono (draw_walk W n 0 s₂ (by omega) hst) (fun vs s₃ h₃ => ?_) fun _ _ f => f))
  obtain ⟨h1, h2, h3, u⟩ := h₃
  rw [if_neg (by omega)]
  rw [Nat.zero_add] at h3
  refine wpAny_bind (wpAny_holding (wpAny_with_toks (n := s₃.toks) (Nat.le_refl _) (W.done s₃ _ _ h3 fun h' tk hk htk => ?_)))
  simp only [Option.isSome_none, Bool.false_eq_true, if_false]
  refine wpAny_pure ⟨⟨h1, fun j x hj => by have := h2 j x hj; rwa [Nat.zero_add] at this⟩, ?_⟩
  have u2 : Up (· = I) s₃ { s₃ with heap := h', toks := tk } := ⟨⟨h', tk, rfl⟩, fun b o hb e => hk b o (fun hm => hb (List.mem_singleton.mp hm)) e, htk⟩
  have u3 := u.trans u2
  obtain ⟨e1, e2, e3⟩ := k₂
  obtain ⟨f1, f2, f3⟩ := u3
  obtain ⟨ha, ta, rfl⟩ := e1
  obtain ⟨hb, tb, eb⟩ := f1
  refine ⟨⟨hb, tb, by rw [eb]⟩, fun b o _ e => f2 b o (by rintro rfl; rw [hI] at e; cases e) (e2 b o id e), Nat.le_trans e3 f3⟩
theorem iterable_list {a : Addr} {its : Array Value} (hl : s.heap.IsList a its) (Q : Bool → Shared → Prop) (E : Value → Shared → Prop) (h : Q false s) : wpAny (model prog w) A (notIterableAtAll (.ref a)) Q E s := by
  unfold notIterableAtAll
  exact wpAny_bind (wpAny_specialOf hl.typeIs slot_list_iter.lookup (wpAny_pure h))
theorem iterable_tuple {a : Addr} {its : Array Value} (hl : s.heap.IsTuple a its) (Q : Bool → Shared → Prop) (E : Value → Shared → Prop) (h : Q false s) : wpAny (model prog w) A (notIterableAtAll (.ref a)) Q E s := by
  unfold notIterableAtAll
  exact wpAny_bind (wpAny_specialOf hl.typeIs PySem.F.slot_tuple_iter.lookup (wpAny_pure h))
theorem src_tuple {a : Addr} {vs : List Value} (h : s.heap.IsTuple a vs.toArray) : Src prog w (.ref a) s vs.length (fun i v => vs[i]? = some v) [a] := by
  intro A E Q hQ
  have hne : a ≠ s.heap.objs.size := by obtain ⟨o, ho, _⟩ := h; exact Nat.ne_of_lt (Heap.lt_size ho)
  refine wpAny_pyIter_tuple h (hQ _ (fun i h => h.IsTupleIter s.heap.objs.size a i ∧ h.IsTuple a vs.toArray) _ (fun A' hA => ?_) ⟨⟨_, Heap.get?_push_size _ rfl, rfl, rfl⟩, h.push _⟩ ?_ ?_ (Kp.push _) (none_size _))
  · have := Walks.tuple (prog := prog) (w := w) hA s.heap.objs.size a hne vs.toArray
    simpa using this
  · rintro i s' ⟨⟨o, ho, _, hd⟩, _⟩
    exact ⟨o, _, ho, hd⟩
  · intro b hb
    rw [show ({ s with heap := s.heap.push { cls := .type "tuple_iterator", data := .fields #[.ref a, .int 0 0] } } : Shared).heap.objs.size = s.heap.objs.size + 1 from Heap.size_push ..]
    rcases List.mem_cons.mp hb with rfl | hb
    · exact Nat.lt_succ_self _
    · rw [List.mem_singleton.mp hb]; obtain ⟨o, ho, _⟩ := h; exact Nat.lt_succ_of_lt (Heap.lt_size ho)
theorem two_items {vs : List Value} {x y : Value} (hl : vs.length = 2) (h : ∀ (j : Nat) v, vs[j]? = some v → [x, y][j]? = some v) : vs = [x, y] := same_items (by simpa using hl) h
/-- the two of a list of two -/
theorem q_unpack2L {a : Addr} {x y : Value} (hA : A.handled = none) (hl : s.heap.IsList a [x, y].toArray) : Qt prog w A (unpackItems (.ref a) 2 none) (fun vs _ => vs = [x, y]) s :=
  (q_unpack (n := 2) hA (src_list (vs := [x, y]) hl) (fun Q E h => iterable_list hl Q E h)).mono fun vs s' h _ => two_items h.1 h.2
theorem q_unpack2T {a : Addr} {x y : Value} (hA : A.handled = none) (hl : s.heap.IsTuple a [x, y].toArray) : Qt prog w A (unpackItems (.ref a) 2 none) (fun vs _ => vs = [x, y]) s :=
  (q_unpack (n := 2) hA (src_tuple (vs := [x, y]) hl) (fun Q E h => iterable_tuple hl Q E h)).mono fun vs s' h _ => two_items h.1 h.2
theorem q_newTuple {vs : List Value} (h : vs.length ≤ sizeLine) : Qt prog w A (newTuple vs) (fun v s' => ∃ a, v = .ref a ∧ s.heap.get? a = none ∧ s'.heap.IsTuple a vs.toArray) s :=
  wpAny_newObj_type ⟨⟨_, rfl, none_size _, _, Heap.get?_push_size _ rfl, rfl, 0, rfl⟩, Kp.push _⟩ (by show vs.toArray.size ≤ sizeLine; simpa using h)
end

section
variable {prog : Program} {w : World} {A : Around} {E : Value → Shared → Prop} {s₀ s : Shared} {m cm : Str → Option Value} {env : Env} {n k : Str}
/-- n, k = a pair -/
theorem asg2 {v x y : Value} {p1 p2 p3 : Pos} {q : Nat} {Q : Unit → Shared → Prop} (F : Fs s₀ env.locals m env.cells cm s) (hu : Qt prog w A (unpackItems v 2 none) (fun vs _ => vs = [x, y]) s)
    (h : ∀ s', Fs s₀ env.locals (Upd (Upd m n x) k y) env.cells cm s' → Up (Mx env.locals env.cells) s s' → Q () s')
    (hk : env.scope.kind = .function := by rfl) (hn : env.kindOf n = some .local := by rfl) (hn' : env.kindOf k = some .local := by rfl) :
    wpAny (model prog w) A (assign (.Tuple [.Name n p1, .Name k p2] q p3) env v) Q E s := by
  rw [arm_assign_Tuple]
  refine wpAny_bind (wpAny_standAt ?_)
  unfold unpack
  refine wpAny_bind (wpAny_holding ?_)
  show wpAny _ _ (unpackItems v 2 none) _ _ _
  refine hu.then fun vs s₁ e k₁ => ?_
  subst e
  show wpAny _ _ (do holding [y] (assign (.Name n p1) env x); assignInOrder [assign (.Name k p2) env] [y]) _ _ _
  refine wpAny_bind (wpAny_holding (wpAny_assign_Name (stL (F.k k₁) (fun s₂ F₂ u₂ => ?_) hk hn)))
  show wpAny _ _ (do holding [] (assign (.Name k p2) env y); assignInOrder [] []) _ _ _
  refine wpAny_bind (wpAny_holding (wpAny_assign_Name (stL F₂ (fun s₃ F₃ u₃ => ?_) hk hn')))
  exact wpAny_pure (h s₃ F₃ (((Up.of k₁).trans u₂).trans u₃))
/-- n, k = x, y : the stores swapped -/
theorem asg2s {value : Expr} {p1 p2 p3 pos : Pos} {q : Nat} {Q : Flow → Shared → Prop} (F : Fs s₀ env.locals m env.cells cm s)
    (he : wpAny (model prog w) A (eval value env) (fun v s₁ => ∃ x y, Kp s s₁ ∧ Qt prog w A (unpackItems v 2 none) (fun vs _ => vs = [x, y]) s₁ ∧
      ∀ s', Fs s₀ env.locals (Upd (Upd m k y) n x) env.cells cm s' → Up (Mx env.locals env.cells) s s' → Q .next s') E s)
    (hs : swapsWithSole [.Tuple [.Name n p1, .Name k p2] q p3] value pos.line env = pure false := by rfl)
    (hw : swappedStores [.Tuple [.Name n p1, .Name k p2] q p3] value env = pure (some [n, k]) := by rfl)
    (hk : env.scope.kind = .function := by rfl) (hn : env.kindOf n = some .local := by rfl) (hn' : env.kindOf k = some .local := by rfl) :
    wpAny (model prog w) A (exec (.Assign [.Tuple [.Name n p1, .Name k p2] q p3] value pos) env) Q E s := by
  refine Assign_Tuple_swapped (names := [n, k]) (wpAny_mono he (fun v s₁ h₁ => ?_) fun _ _ e => e) hs hw
  obtain ⟨x, y, k₁, hu, h⟩ := h₁
  refine hu.then fun vs s₂ e k₂ => ?_
  subst e
  show wpAny _ _ (do holding [x] (bindName env k y); assignInOrder [bindName env n] [x]) _ _ _
  refine wpAny_bind (wpAny_holding (bindName_ (stL (F.k (k₁.trans k₂)) (fun s₃ F₃ u₃ => ?_) hk hn')))
  show wpAny _ _ (do holding [] (bindName env n x); assignInOrder [] []) _ _ _
  refine wpAny_bind (wpAny_holding (bindName_ (stL F₃ (fun s₄ F₄ u₄ => ?_) hk hn)))
  exact wpAny_pure (h s₄ F₄ (((Up.of (k₁.trans k₂)).trans u₃).trans u₄))
/-- a while by a measure -/
theorem st_while {test : Expr} {body : List Stmt} {pos : Pos} {Q : Flow → Shared → Prop} (J : Nat → Shared → Prop) (N : Nat) (h0 : J N s)
    (turn : ∀ n s₁, J n s₁ → wpAny (model prog w) A (isTrue test env (eval test env)) (fun b s₂ => if b then wpAny (model prog w) A (execs body env) (fun f s₃ => match f with
      | .next | .cont => ∃ m, m < n ∧ J m s₃ | .brk => False | .ret v => Q (.ret v) s₃) (fun _ _ => False) s₂ else Q .next s₂) (fun _ _ => False) s₁) :
    wpAny (model prog w) A (exec (.While test body [] pos) env) Q E s := by
  refine wpAny_While (codeAny_whileLoop J (fun n s₁ hj => ?_) N h0)
  refine wpAny_mono (turn n s₁ hj) (fun b s₂ h₂ => ?_) fun _ _ f => f.elim
  cases b with
  | true =>
    simp only [if_true] at h₂ ⊢
    refine wpAny_mono h₂ (fun f s₃ h₃ => ?_) fun _ _ f => f.elim
    cases f with
    | next => exact h₃
    | cont => exact h₃
    | brk => exact h₃.elim
    | ret v => exact h₃
  | false =>
    simp only [Bool.false_eq_true, if_false] at h₂ ⊢
    exact wpAny_execs_nil h₂
end
end Mine
end
section
open PySem PySem.W PyProof.Rows PySem.Calls
namespace Mine
theorem valueAt_put {K : Type} [DecidableEq K] (kvs : List (K × Value)) (k k' : K) (y : Value) : valueAt (stored kvs k y) k' = if k' = k then some y else valueAt kvs k' := by
  unfold valueAt stored
  split
  · rename_i h
    induction kvs with
    | nil => simp at h
    | cons p r ih =>
      obtain ⟨a, b⟩ := p
      by_cases ha : a = k
      · subst ha
        by_cases hk : k' = a
        · subst hk; simp
        · simp only [List.map_cons, if_true]
          rw [List.find?_cons_of_neg (by simpa using fun e => hk e.symm), List.find?_cons_of_neg (by simpa using fun e => hk e.symm), if_neg hk]
          clear ih h
          induction r with
          | nil => rfl
          | cons q r ih =>
            obtain ⟨c, d⟩ := q
            by_cases hc : c = k'
            · subst hc; simp [hk]
            · by_cases hca : c = a
              · subst hca
                simp only [List.map_cons, if_true]
                rw [List.find?_cons_of_neg (by simpa using hc), List.find?_cons_of_neg (by simpa using hc)]; exact ih
              · simp only [List.map_cons, hca, if_false]
                rw [List.find?_cons_of_neg (by simpa using hc), List.find?_cons_of_neg (by simpa using hc)]; exact ih
      · have h' : (r.any fun kv => decide (kv.1 = k)) = true := by simpa [ha] using h
        simp only [List.map_cons, ha, if_false]
        by_cases hk : a = k'
        · subst hk; simp [ha]
        · rw [List.find?_cons_of_neg (by simpa using hk), List.find?_cons_of_neg (by simpa using hk)]; exact ih h'
  · rename_i h
    by_cases hk : k' = k
    · subst hk
      rw [if_pos rfl, List.find?_append]
      have : kvs.find? (fun kv => decide (kv.1 = k')) = none := by
        rw [List.find?_eq_none]; intro x hx hx2; exact h (List.any_eq_true.mpr ⟨x, hx, hx2⟩)
      rw [this]; simp
    · rw [if_neg hk, List.find?_append]
      rw [List.find?_cons_of_neg (by simpa using fun e => hk e.symm)]
      simp
/-- what a dict of signs says -/
noncomputable def KeyS (v : Value) (k : Str) : Prop := ∃ t, v = .str k t
theorem stored_says {f : List Nat → List Nat} : ∀ {vs : List Value} {kvs : List (Str × Value)}, StoredAll KeyS (ToS f) vs kvs → ∀ {ps : List (List Nat)}, StrsAre vs (ps.map S) →
    ∀ x : List Nat, (x ∈ ps → ∃ t, valueAt kvs (S x) = some (.str (S (f x)) t)) ∧ (x ∉ ps → valueAt kvs (S x) = none) := by
  intro vs kvs h
  induction h with
  | nil =>
    intro ps hs x
    cases ps with
    | nil => exact ⟨by simp, fun _ => rfl⟩
    | cons p r => cases hs
  | @snoc l kvs v k y _ hk hy ih =>
    intro ps hs x
    have hne : ps ≠ [] := by rintro rfl; have := hs.length; simp at this
    obtain ⟨qs, q, rfl⟩ : ∃ qs q, ps = qs ++ [q] := ⟨ps.dropLast, ps.getLast hne, (List.dropLast_concat_getLast hne).symm⟩
    have hl : l.length = qs.length := by have := hs.length; simp at this; exact this
    have hsl : StrsAre l (qs.map S) := by
      have := strs_take hs l.length
      rwa [List.take_left, hl, List.take_left] at this
    obtain ⟨x', t', hv, _, hq⟩ := strs_at hs (i := l.length) (v := v) (by simp)
    have hx' : x' = q := by rw [hl] at hq; simpa using hq.symm
    subst hx'
    obtain ⟨t'', hy'⟩ := hy x' t' hv
    obtain ⟨t3, hk'⟩ := hk
    have hkx : k = S x' := by rw [hv] at hk'; cases hk'; rfl
    rw [valueAt_put, hkx]
    have ih' := ih hsl x
    by_cases hx : x = x'
    · subst hx
      exact ⟨fun _ => ⟨t'', by rw [if_pos rfl, hy']⟩, fun hn => absurd (by simp) hn⟩
    · have hS : S x ≠ S x' := fun e => hx (S_inj e)
      rw [if_neg hS]
      exact ⟨fun hm => ih'.1 (by simpa [hx] using hm), fun hm => ih'.2 (fun q => hm (by simp [q]))⟩

/-- the table of the seven signs -/
noncomputable def IsD (prog : Program) (w : World) (s : Shared) (d : Addr) (ps : List (List Nat)) (f : List Nat → List Nat) : Prop :=
  (d == sysModules) = false ∧ ∃ kvs, s.heap.DictOf (strKind prog w) d kvs ∧ ∀ x : List Nat, (x ∈ ps → ∃ t, valueAt kvs (S x) = some (.str (S (f x)) t)) ∧ (x ∉ ps → valueAt kvs (S x) = none)
theorem IsD.h {prog : Program} {w : World} {s s' : Shared} {d : Addr} {ps : List (List Nat)} {f : List Nat → List Nat} (D : IsD prog w s d ps f) (k : ∀ b o, s.heap.get? b = some o → s'.heap.get? b = some o) : IsD prog w s' d ps f :=
  let ⟨a, kvs, hd, r⟩ := D; ⟨a, kvs, hd.at fun o e => k d o e, r⟩
section
variable {prog : Program} {w : World} {A : Around} {E : Value → Shared → Prop} {s : Shared} {d : Addr} {ps : List (List Nat)} {f : List Nat → List Nat} {Q : Value → Shared → Prop}
theorem at_key {value slice : Expr} {x : List Nat} {t : Tok} (D : IsD prog w s d ps f) (hx : x ∈ ps) (h : ∀ t', Q (.str (S (f x)) t') { s with toks := s.toks + 1 })
    (hs : subscripted slice false (.ref d) (.str (S x) t) = operate [.ref d, .str (S x) t] (getItem (.ref d) (.str (S x) t)) := by with_unfolding_all rfl) (hg : ∀ r, letTemporaryGo value (.ref d) r = pure () := by intro _; with_unfolding_all rfl) :
    wpAny (model prog w) A (subscriptTail value slice (.ref d) (.str (S x) t)) Q E s := by
  obtain ⟨lo, kvs, hd, r⟩ := D
  obtain ⟨t', hv⟩ := (r x).1 hx
  exact subscriptTail_builtin hd.typeIs slot_dict_getitem.lookup (wpAny_getItem_of (strKind_is prog w (S x) t) hd.mapOf hv (h t')) hs hg
theorem get_key {x : List Nat} {t u : Tok} (D : IsD prog w s d ps f) (h : ∀ t', Q (.str (S (if x ∈ ps then f x else x)) t') { s with toks := s.toks + 1 }) :
    wpAny (model prog w) A (call (.builtin "dict.get") [.ref d, .str (S x) t, .str (S x) u]) Q E s := by
  obtain ⟨lo, kvs, hd, r⟩ := D
  refine call_meetsIn PySem.F.slot_dict_get hd.typeIs PySem.F.entry_dict_get (PySem.F.args_dict_get_3 _ _ _) (meets_dict_get_default (strKind prog w) d (strKind_is prog w (S x) t) lo (.str (S x) u)) ⟨_, hd.mapOf, ?_⟩
  by_cases hx : x ∈ ps
  · obtain ⟨t', hv⟩ := (r x).1 hx
    have := h t'
    rw [if_pos hx] at this
    rw [hv]; exact this
  · have hv := (r x).2 hx
    have := h u
    rw [if_neg hx] at this
    rw [hv]; exact this
theorem onDict {name : Str} {id : String} {pos : Pos} {args : List (Bool × Sem Value)} (slot : Slot "dict" name id) (ty : typeOf (.builtin id) = pure (.type "method_descriptor"))
    (D : IsD prog w s d ps f) (h : wpAny (model prog w) A (callWith pos (.builtin id) [.ref d] args []) Q E s) : MethodOnS prog w A E name (.ref d) pos args Q s := by
  obtain ⟨lo, kvs, hd, r⟩ := D
  exact ⟨"dict", id, PySem.F.plainAttrs_dict, slot, ty, hd.typeIs, hd.mapOf.noDict, h⟩
end
theorem newDict_at {M : Model} {A : Around} {E : Value → Shared → Prop} {s : Shared} {Q : Value → Shared → Prop} (h : wpAny M A newDict Q E s) : wpAny M A newDict (fun v s' => v = .ref s.heap.objs.size ∧ Q v s') E s :=
  fun Γ p hΓ => by
    have h1 : Q (.ref s.heap.objs.size) { s with heap := s.heap.push { cls := .type "dict", dict := none, data := .dict #[] } } := h Γ p hΓ
    exact ⟨rfl, h1⟩
/-- a dict comprehension: its dict lies behind all -/
theorem DictComp_at {K : Type} [DecidableEq K] {prog : Program} {w : World} {A : Around} {E : Value → Shared → Prop} {env : Env} {s : Shared} {kx vx iter : Expr} {x : Str} {px : Pos} {ifs : List Expr} {scope : Scope} {cl : List (Str × Addr)} {pos : Pos} {Q : Value → Shared → Prop} (knd : KeyKind prog w K) (p : Value → Bool)
    (FK : Value → K → Prop) (FV : Value → Value → Prop)
    (hclos : closureFor scope env = pure cl) (hcell : ∀ y ∈ scope.names, y.2 ≠ .cell) (hkind : scope.kind = .function)
    (hnames : ∀ y ∈ scope.names, y.2 = .local → scope.names.lookup y.1 = some .local) (hx : scope.names.lookup x = some .local)
    (h : wpAny (model prog w) A (eval iter env) (fun xv s₁ => wpAny (model prog w) A (pyIter xv) (fun it s₂ => ∃ I fp wr n P St, it = .ref I ∧ Walks prog w A I fp wr n P St ∧ n ≤ sizeLine ∧ St 0 s₂.heap ∧ (∀ b ∈ fp, b < s₂.heap.objs.size) ∧
      QuietOnCD knd A env scope cl x ifs kx vx wr P p FK FV s₂ ∧
      (∀ D h' tk kvs (vs : List Value), D = s₂.heap.objs.size → h'.DictOf knd D kvs → vs.length = n → (∀ j v, vs[j]? = some v → P j v) → StoredAll FK FV (vs.filter p) kvs →
        (∀ b o, b ∉ wr → s₂.heap.get? b = some o → h'.get? b = some o) → Q (.ref D) { s₂ with heap := h', toks := tk })) E s₁) E s)
    (hs : ∀ x, foldedSetIterable iter env x = pure x) :
    wpAny (model prog w) A (eval (.DictComp kx vx [⟨.Name x px, iter, ifs, 0⟩] scope pos) env) Q E s := by
  rw [arm_eval_DictComp]
  refine wpAny_comprehension_free (use := none) rfl hs hclos hkind hnames (wpAny_mono h (fun xv s₁ h₁ => wpAny_mono h₁ (fun it s₂ h₂ => ?_) fun _ _ e => e) fun _ _ e => e)
  obtain ⟨I, fp, wr, n, P, St, rfl, W, hsz, hst, hfp, hq, hQ⟩ := h₂
  refine wpAny_mono (newDict_at (comp_block_walkCD (knd := knd) (RR := fun acc C r s => acc = .ref s₂.heap.objs.size → compPost (model prog w) A E none Q acc C r s) W hsz p FK FV hcell hkind hx hst hfp hq ?_)) (fun acc s₃ h₃ => wpAny_mono h₃.2 (fun cenv s₄ h₄ => codeAny_mono h₄ fun r s₅ h₅ => h₅ h₃.1) fun _ _ e => e) fun _ _ e => e
  intro D C h' tk m' kvs vs hD hC hDC hn hl hlen hP hF hk hacc
  have hDe : D = s₂.heap.objs.size := by cases hacc; rfl
  exact ⟨m', hn, fun h'' hs'' => hQ D h'' tk kvs vs hDe (hl.extBut hs''.extBut hDC) hlen hP hF fun b o hbf e => hs''.extBut b o (by rintro rfl; rw [hC] at e; cases e) (hk b o hbf e)⟩
section
variable {prog : Program} {w : World} {A : Around} {E : Value → Shared → Prop} {s : Shared} {env : Env}
/-- {x: e for x in a text of signs} -/
theorem c_dict {vx iter : Expr} {x : Str} {px pk : Pos} {scope : Scope} {cl : List (Str × Addr)} {pos : Pos} {l : List Nat} {Q : Value → Shared → Prop}
    (f : List Nat → List Nat) (hA : A.handled = none) (hn : l.length ≤ 1000)
    (he : Qt prog w A (eval iter env) (fun xv s₁ => Src prog w xv s₁ l.length (SignAt (S l)) []) s)
    (hval : ∀ C c t s₃ m₃, s₃.heap.Ns C m₃ → m₃ x = some (.str (S [c]) t) → (∀ b o, s.heap.get? b = some o → s₃.heap.get? b = some o) → Qt prog w A (eval vx (compEnvC scope cl C env)) (fun y _ => ∃ t, y = .str (S (f [c])) t) s₃)
    (h : ∀ d s', s.heap.get? d = none → Kp s s' → IsD prog w s' d (l.map fun c => [c]) f → Q (.ref d) s')
    (hlo : s.heap.NoLimit)
    (hclos : closureFor scope env = pure cl := by rfl) (hcell : ∀ y ∈ scope.names, y.2 ≠ .cell := by decide +kernel) (hkind : scope.kind = .function := by rfl)
    (hnames : ∀ y ∈ scope.names, y.2 = .local → scope.names.lookup y.1 = some .local := by decide +kernel) (hx : scope.names.lookup x = some .local := by rfl)
    (hs : ∀ x, foldedSetIterable iter env x = pure x := by intro _; rfl) (hkx : ∀ C, (compEnvC scope cl C env).kindOf x = some .local := by intro _; rfl) (hdb : (x == ("__debug__" : Str)) = false := by decide) :
    wpAny (model prog w) A (eval (.DictComp (.Name x pk) vx [⟨.Name x px, iter, [], 0⟩] scope pos) env) Q E s := by
  refine wpAny_with_toks (n := s.toks) (Nat.le_refl _) (DictComp_at (strKind prog w) (fun _ => true) KeyS (ToS f) hclos hcell hkind hnames hx (he.then fun xv s₁ hsrc k₁ => hsrc _ _ _ fun I St s₂ hW hst hIt hsz k₂ hI => ?_) hs)
  have kk : Kp s s₂ := k₁.trans k₂
  have hIs : s.heap.get? I = none := by
    cases e : s.heap.get? I with
    | none => rfl
    | some o => have := k₁.keep _ _ e; rw [hI] at this; cases this
  have up : ∀ h' : Heap, (∀ b o, b ∉ [I] → s₂.heap.get? b = some o → h'.get? b = some o) → ∀ b o, s.heap.get? b = some o → h'.get? b = some o := fun h' hk b o e =>
    hk b o (by intro hm; rw [List.mem_singleton.mp hm, hIs] at e; cases e) (kk.keep b o e)
  refine ⟨I, [I], [I], l.length, SignAt (S l), St, rfl, hW A hA, by rw [sizeLine_eq]; omega, hst, hsz, ⟨?_, ?_, ?_⟩, ?_⟩
  · intro C i v s₃ m₃ E' hP hns hm hk
    exact wpAny_tests_nil ⟨rfl, Kp.rfl'.keeps⟩
  · rintro C i v s₃ m₃ E' ⟨c, t, hc, rfl⟩ _ hns hm hk
    exact nmN hns hm ⟨⟨S [c], strKind_is prog w _ _, t, rfl⟩, Kp.rfl'.keeps⟩ (by show (relabel scope env).kind = _; exact hkind) (hkx C) hdb
  · rintro C i v s₃ m₃ E' ⟨c, t, hc, rfl⟩ _ hns hm hk
    refine (hval C c t s₃ m₃ hns hm (up _ hk)).then ?_
    rintro y s₄ ⟨t', rfl⟩ k₄
    exact ⟨fun x' t'' e => by cases e; exact ⟨t', rfl⟩, k₄.keeps⟩
  · intro D h' tk kvs vs hD hd hlen hP hF hk htk
    rw [filter_all] at hF
    have hDs : s.heap.get? D = none := by
      cases e : s.heap.get? D with
      | none => rfl
      | some o => have := kk.keep _ _ e; rw [hD, none_size] at this; cases this
    have hDm : (D == sysModules) = false := by
      have := modules_low (hlo.keeps kk.keep)
      rw [← hD] at this
      exact beq_eq_false_iff_ne.mpr fun e => Nat.lt_irrefl _ (e ▸ this)
    have e2 : ({ s₂ with heap := h', toks := tk } : Shared) = { s with heap := h', toks := tk } := by
      obtain ⟨⟨h2, t2, rfl⟩, _, _⟩ := kk; rfl
    rw [e2]
    refine h D _ hDs (Kp.heap htk (up h' hk)) ⟨hDm, kvs, hd, ?_⟩
    exact stored_says hF (strs_signs hlen hP)
end
end Mine
end
section
open PySem PySem.W PyProof.Rows PySem.Calls PySem.Spec
namespace Mine
theorem map_S_inj {ps qs : List (List Nat)} : ps.map S = qs.map S ↔ ps = qs := by
  constructor
  · intro h
    induction ps generalizing qs with
    | nil => cases qs with
      | nil => rfl
      | cons _ _ => cases h
    | cons p r ih => cases qs with
      | nil => cases h
      | cons q t =>
        simp only [List.map_cons, List.cons.injEq] at h
        rw [S_inj h.1, ih h.2]
  · rintro rfl; rfl
section
variable {prog : Program} {w : World} {A : Around} {E : Value → Shared → Prop} {s : Shared} {a b : Addr} {xs ys : List Value} {ps qs : List (List Nat)} {Q : Value → Shared → Prop}
theorem texts_range {ps qs : List (List Nat)} (h : ps.length = qs.length) : ((List.range ps.length).all fun j => S (ps.getD j []) == S (qs.getD j [])) = decide (ps = qs) := by
  rw [Bool.eq_iff_iff, List.all_eq_true, decide_eq_true_iff]
  constructor
  · intro hh
    refine List.ext_getElem h fun i h1 h2 => ?_
    have := hh i (List.mem_range.mpr h1)
    have := S_inj (eq_of_beq this)
    simpa [List.getD_eq_getElem?_getD, List.getElem?_eq_getElem h1, List.getElem?_eq_getElem h2] using this
  · rintro rfl i _; simp
theorem texts_at {ps : List (List Nat)} {xs : List Value} (hi : StrsAre xs (ps.map S)) {j : Nat} (h1 : j < xs.toArray.size) : ∃ t, xs.toArray[j] = .str (S (ps.getD j [])) t := by
  have h1' : j < xs.length := by simpa using h1
  have e : xs[j]? = some xs[j] := List.getElem?_eq_getElem h1'
  obtain ⟨x, t, hx, _, hp⟩ := strs_at hi e
  exact ⟨t, by rw [List.getD_eq_getElem?_getD, hp]; simpa using hx⟩
theorem eq_texts (ha : s.heap.IsList a xs.toArray) (hb : s.heap.IsList b ys.toArray) (hi : StrsAre xs (ps.map S)) (hj : StrsAre ys (qs.map S)) (hu : A.units < cLine) (h : Q (.bool (decide (ps = qs))) s) :
    wpAny (model prog w) A (compareOp .Eq (.ref a) (.ref b)) Q E s := by
  have l1 : xs.length = ps.length := by rw [hi.length, List.length_map]
  have l2 : ys.length = qs.length := by rw [hj.length, List.length_map]
  by_cases hl : ps.length = qs.length
  · refine SeqAt.eq_listAt (e := fun j => S (ps.getD j []) == S (qs.getD j [])) ha hb (by simp [l1, l2, hl]) hu ?_ ?_
    · intro j h1 h2
      obtain ⟨t, e⟩ := texts_at hi h1
      obtain ⟨u, e'⟩ := texts_at hj h2
      rw [e, e']; exact SeqAt.EqAt.str_str _ _ _ _
    · rw [List.size_toArray, l1, texts_range hl]; exact h
  · refine SeqAt.eq_list_lengthsAt ha hb (by simpa [l1, l2] using hl) hu ?_
    rw [decide_eq_false (fun e => hl (by rw [e]))] at h; exact h
theorem ne_texts (ha : s.heap.IsList a xs.toArray) (hb : s.heap.IsList b ys.toArray) (hi : StrsAre xs (ps.map S)) (hj : StrsAre ys (qs.map S)) (hu : A.units < cLine) (h : Q (.bool (!decide (ps = qs))) s) :
    wpAny (model prog w) A (compareOp .NotEq (.ref a) (.ref b)) Q E s := by
  have l1 : xs.length = ps.length := by rw [hi.length, List.length_map]
  have l2 : ys.length = qs.length := by rw [hj.length, List.length_map]
  by_cases hl : ps.length = qs.length
  · refine SeqAt.RcNeAt.lists (e := fun j => S (ps.getD j []) == S (qs.getD j [])) ha hb (by simp [l1, l2, hl]) hu ?_ prog w E Q ?_
    · intro j h1 h2
      obtain ⟨t, e⟩ := texts_at hi h1
      obtain ⟨u, e'⟩ := texts_at hj h2
      rw [e, e']; exact SeqAt.EqAt.str_str _ _ _ _
    · rw [List.size_toArray, l1, texts_range hl]; exact h
  · refine SeqAt.RcNeAt.lists_lengths ha hb (by simpa [l1, l2] using hl) hu prog w E Q ?_
    rw [decide_eq_false (fun e => hl (by rw [e]))] at h; exact h
theorem ne_bools {x y : Bool} (h : Q (.bool (x != y)) s) : wpAny (model prog w) A (compareOp .NotEq (.bool x) (.bool y)) Q E s := by
  exact SeqAt.RcNeAt.bool_bool x y prog w E Q h
theorem q_all {l : Addr} {vs : List Value} {bs : List Bool} (hh : A.handled = none) (hl : s.heap.IsList l vs.toArray) (hb : ∀ (i : Nat) v, vs[i]? = some v → ∃ b, bs[i]? = some b ∧ v = .bool b) (hlen : vs.length = bs.length) :
    Qt prog w A (call (.builtin "all") [.ref l]) (fun v _ => v = .bool (bs.all id)) s := by
  have hlt : l < s.heap.objs.size := by obtain ⟨_, e, _⟩ := hl; exact Heap.lt_size e
  refine Qt.mk (call_all_walk (wpAny_pyIter_list hl ?_))
  refine ⟨s.heap.objs.size, [s.heap.objs.size, l], [s.heap.objs.size], vs.toArray.size, _, _, fun i => (bs[i]?).getD true, rfl, Walks.list (A := A.in1) hh _ l (Nat.ne_of_lt hlt) vs.toArray,
    ⟨⟨_, Heap.get?_push_size _ rfl, rfl, rfl⟩, hl.push _⟩, fun i v s' Q' E' hP hQ => ?_, fun h' tk hk => ?_⟩
  · obtain ⟨b, e, rfl⟩ := hb i v (by simpa using hP)
    simp only [e, Option.getD_some] at hQ
    exact wpAny_truthy_bool hQ
  · have e : ((List.range vs.toArray.size).all fun i => (bs[i]?).getD true) = bs.all id := by
      rw [List.size_toArray, hlen]
      rw [Bool.eq_iff_iff, List.all_eq_true, List.all_eq_true]
      constructor
      · intro h x hx
        obtain ⟨i, hi, rfl⟩ := List.mem_iff_getElem.mp hx
        have := h i (List.mem_range.mpr hi)
        rwa [List.getElem?_eq_getElem hi, Option.getD_some] at this
      · intro h i hi
        have hi' := List.mem_range.mp hi
        rw [List.getElem?_eq_getElem hi', Option.getD_some]
        exact h _ (List.getElem_mem hi')
    refine ⟨by rw [e], h', tk, rfl, fun b x e => hk b x (fun hm => ?_) (Heap.get?_push_of_some _ e)⟩
    rw [List.mem_singleton.mp hm] at e
    exact Nat.lt_irrefl _ (Heap.lt_size e)
end
end Mine
end
section
open PySem PySem.W PyProof.Rows PySem.Calls
namespace Mine
/-! The plain end of law 1: g spells each sign. -/
noncomputable def mapSt (g : Nat → List Nat) (st : PSt) : PSt := ⟨st.res.map (·.flatMap g), st.part.flatMap g, st.esc, st.quo⟩
/-- signs that mean nothing to the reader -/
noncomputable def Plain (w : List Nat) : Prop := w ≠ [] ∧ ∀ c ∈ w, c ≠ 34 ∧ c ≠ 92 ∧ c ≠ 44
structure Good (g : Nat → List Nat) (c : Nat) : Prop where
  one : g c = [c] ∨ Plain (g c)
  bs : c = 92 → g c = [c]
  co : c = 44 → g c = [c]
theorem run_plain (rs : List (List Nat)) (q : Bool) : ∀ (w pt : List Nat), (∀ c ∈ w, c ≠ 34 ∧ c ≠ 92 ∧ c ≠ 44) → run ⟨rs, pt, false, q⟩ w = ⟨rs, pt ++ w, false, q⟩
  | [], pt, _ => by simp [run]
  | c :: r, pt, h => by
    obtain ⟨h1, h2, h3⟩ := h c (by simp)
    have ih := run_plain rs q r (pt ++ [c]) fun d hd => h d (by simp [hd])
    rw [run_cons]
    have e : pstep ⟨rs, pt, false, q⟩ c = ⟨rs, pt ++ [c], false, q⟩ := by cases q <;> simp [pstep, h1, h2, h3]
    rw [e, ih]; simp
theorem run_spelled {g : Nat → List Nat} {st : PSt} {c : Nat} (G : Good g c) (hq : c = 34 → g c = [c]) : run (mapSt g st) (g c) = mapSt g (pstep st c) := by
  obtain ⟨rs, pt, e, q⟩ := st
  by_cases hone : g c = [c]
  · rw [hone]
    show pstep (mapSt g ⟨rs, pt, e, q⟩) c = _
    unfold pstep mapSt
    dsimp only
    cases e with
    | true => simp [hone]
    | false =>
      cases q with
      | true =>
        by_cases h92 : c = 92
        · simp [h92]
        · simp [h92, hone]
      | false =>
        by_cases h44 : c = 44
        · simp [h44]
        · simp [h44, hone]
  · obtain hp := G.one.resolve_left hone
    have c34 : c ≠ 34 := fun e => hone (hq e)
    have c92 : c ≠ 92 := fun e => hone (G.bs e)
    have c44 : c ≠ 44 := fun e => hone (G.co e)
    cases hw : g c with
    | nil => exact absurd hw hp.1
    | cons d w =>
      have hpl := hp.2
      rw [hw] at hpl
      cases e with
      | true =>
        rw [run_cons]
        have e1 : pstep (mapSt g ⟨rs, pt, true, q⟩) d = ⟨rs.map (·.flatMap g), pt.flatMap g ++ [d], false, q⟩ := rfl
        rw [e1, run_plain _ _ _ _ fun x hx => hpl x (by simp [hx])]
        simp [pstep, mapSt, hw]
      | false =>
        have e1 : mapSt g ⟨rs, pt, false, q⟩ = ⟨rs.map (·.flatMap g), pt.flatMap g, false, q⟩ := rfl
        rw [e1, run_plain _ _ _ _ hpl]
        cases q <;> simp [pstep, mapSt, hw, c34, c92, c44]
theorem run_flat {g : Nat → List Nat} : ∀ (l : List Nat), (∀ c ∈ l, Good g c) → (∀ c ∈ l, c = 34 → g c = [c]) → ∀ st, run (mapSt g st) (l.flatMap g) = mapSt g (run st l)
  | [], _, _, st => rfl
  | c :: r, h, hq, st => by
    rw [List.flatMap_cons, run_app, run_spelled (h c (by simp)) (hq c (by simp)), run_flat r (fun d hd => h d (by simp [hd])) (fun d hd => hq d (by simp [hd])), run_cons]
theorem flat_nil {g : Nat → List Nat} (hg : ∀ c, g c ≠ []) (l : List Nat) : l.flatMap g = [] ↔ l = [] := by
  cases l with
  | nil => simp
  | cons c r => simp [hg c]
/-- quotes left bare: the reading of the spelled text -/
theorem parseR_bare {g : Nat → List Nat} (hg : ∀ c, g c ≠ []) {l : List Nat} (h : ∀ c ∈ l, Good g c) (hq : ∀ c ∈ l, c = 34 → g c = [c]) : parseR (l.flatMap g) = (parseR l).map (·.flatMap g) := by
  have e := run_flat l h hq init
  have e' : pfold (l.flatMap g) = mapSt g (pfold l) := e
  unfold parseR
  rw [e']
  show (pfold l).res.map (·.flatMap g) ++ (if (pfold l).part.flatMap g = [] then [] else [(pfold l).part.flatMap g]) = _
  by_cases hp : (pfold l).part = []
  · simp [hp]
  · have : (pfold l).part.flatMap g ≠ [] := fun q => hp ((flat_nil hg _).mp q)
    simp [hp, this]
theorem pieces_plain : ∀ (t : List Nat), 34 ∉ t → ∀ rs pt, ∃ rs' pt', run ⟨rs, pt, false, false⟩ t = ⟨rs', pt', false, false⟩ ∧
    rs' ++ [pt'] = rs ++ (match splitL 44 t with | [] => [pt] | p :: q => (pt ++ p) :: q)
  | [], _, rs, pt => ⟨rs, pt, rfl, by simp [splitL]⟩
  | c :: r, h, rs, pt => by
    have hc : c ≠ 34 := fun e => h (by simp [e])
    have hr : 34 ∉ r := fun e => h (by simp [e])
    have es : splitL 44 (c :: r) = if c = 44 then [] :: splitL 44 r else match splitL 44 r with
      | [] => [[c]]
      | p :: q => (c :: p) :: q := rfl
    by_cases h44 : c = 44
    · subst h44
      obtain ⟨rs', pt', e1, e2⟩ := pieces_plain r hr (rs ++ [pt]) []
      refine ⟨rs', pt', by rw [run_cons]; simpa [pstep] using e1, ?_⟩
      rw [es, if_pos rfl, e2]
      cases hq : splitL 44 r with
      | nil => exact absurd hq (splitL_ne 44 r)
      | cons p q => simp
    · obtain ⟨rs', pt', e1, e2⟩ := pieces_plain r hr rs (pt ++ [c])
      refine ⟨rs', pt', by rw [run_cons]; simpa [pstep, h44, hc] using e1, ?_⟩
      rw [es, if_neg h44, e2]
      cases hq : splitL 44 r with
      | nil => exact absurd hq (splitL_ne 44 r)
      | cons p q => simp
theorem filledL_pieces (l : List Nat) : filledL ((pfold l).res ++ [(pfold l).part]) = parseR l := by
  unfold filledL parseR
  by_cases hp : (pfold l).part = []
  · simp [hp]
  · simp [hp]
/-- no quote at all: the pieces between the commas -/
theorem parseR_noquote {t : List Nat} (h : 34 ∉ t) : parseR t = filledL (splitL 44 t) := by
  obtain ⟨rs', pt', e1, e2⟩ := pieces_plain t h [] []
  have e : pfold t = ⟨rs', pt', false, false⟩ := e1
  rw [← filledL_pieces, e]
  dsimp only
  rw [e2]
  cases hq : splitL 44 t with
  | nil => exact absurd hq (splitL_ne 44 t)
  | cons p q => simp
theorem splitL_flat {g : Nat → List Nat} : ∀ (l : List Nat), (∀ c ∈ l, Good g c) → splitL 44 (l.flatMap g) = (splitL 44 l).map (·.flatMap g)
  | [], _ => rfl
  | c :: r, h => by
    have ih := splitL_flat r fun d hd => h d (by simp [hd])
    have es : splitL 44 (c :: r) = if c = 44 then [] :: splitL 44 r else match splitL 44 r with
      | [] => [[c]]
      | p :: q => (c :: p) :: q := rfl
    have Gc := h c (by simp)
    rw [List.flatMap_cons, es]
    by_cases h44 : c = 44
    · rw [if_pos h44, Gc.co h44, h44]
      show splitL 44 ([] ++ 44 :: r.flatMap g) = _
      rw [splitL_app 44 _ [] (by simp), ih]; rfl
    · rw [if_neg h44]
      have hfree : 44 ∉ g c := by
        rcases Gc.one with e | e
        · rw [e]; simpa using fun q => h44 q.symm
        · intro hm; exact (e.2 44 hm).2.2 rfl
      have pre : ∀ (w x : List Nat), 44 ∉ w → splitL 44 (w ++ x) = match splitL 44 x with | [] => [w] | p :: q => (w ++ p) :: q := by
        intro w x
        induction w with
        | nil => intro _; cases hq : splitL 44 x with
          | nil => exact absurd hq (splitL_ne 44 x)
          | cons p q => simp [hq]
        | cons d w ih =>
          intro hw
          have hd : d ≠ 44 := fun e => hw (by simp [e])
          have ew : splitL 44 (d :: (w ++ x)) = if d = 44 then [] :: splitL 44 (w ++ x) else match splitL 44 (w ++ x) with
            | [] => [[d]]
            | p :: q => (d :: p) :: q := rfl
          show splitL 44 (d :: (w ++ x)) = _
          rw [ew, if_neg hd, ih fun q => hw (by simp [q])]
          cases hq : splitL 44 x with
          | nil => exact absurd hq (splitL_ne 44 x)
          | cons p q => simp
      rw [pre _ _ hfree, ih]
      cases hq : splitL 44 r with
      | nil => exact absurd hq (splitL_ne 44 r)
      | cons p q => simp

/-- the ends of what a sign is spelled as -/
structure Ends (g : Nat → List Nat) (sp bare : Nat → Bool) (c : Nat) : Prop where
  yes : bare c = true → g c = [c] ∧ sp c = true
  no : bare c = false → ∃ a w b z, g c = a :: w ∧ sp a = false ∧ g c = z ++ [b] ∧ sp b = false
theorem drop_flat {g : Nat → List Nat} {sp bare : Nat → Bool} : ∀ (l : List Nat), (∀ c ∈ l, Ends g sp bare c) → (l.flatMap g).dropWhile sp = (l.dropWhile bare).flatMap g
  | [], _ => rfl
  | c :: r, h => by
    have E := h c (by simp)
    have ih := drop_flat r fun d hd => h d (by simp [hd])
    rw [List.flatMap_cons, List.dropWhile_cons]
    cases hb : bare c with
    | true =>
      obtain ⟨e1, e2⟩ := E.yes hb
      rw [e1]
      simp [e2, ih]
    | false =>
      obtain ⟨a, w, _, _, e1, e2, _⟩ := E.no hb
      rw [e1]
      simp [e2, e1]
theorem rev_flat {g : Nat → List Nat} (l : List Nat) : (l.flatMap g).reverse = l.reverse.flatMap fun c => (g c).reverse := by
  induction l with
  | nil => rfl
  | cons c r ih => rw [List.flatMap_cons, List.reverse_append, ih, List.reverse_cons, List.flatMap_append]; simp
theorem strip_flat {g : Nat → List Nat} {sp bare : Nat → Bool} (l : List Nat) (h : ∀ c ∈ l, Ends g sp bare c) : stripL sp (l.flatMap g) = (stripL bare l).flatMap g := by
  unfold stripL
  rw [drop_flat l h, rev_flat]
  have h2 : ∀ c ∈ (l.dropWhile bare).reverse, Ends (fun c => (g c).reverse) sp bare c := by
    intro c hc
    have E := h c (List.dropWhile_subset bare (List.mem_reverse.mp hc))
    refine ⟨fun hb => ?_, fun hb => ?_⟩
    · obtain ⟨e1, e2⟩ := E.yes hb
      exact ⟨by rw [e1]; rfl, e2⟩
    · obtain ⟨a, w, b, z, e1, e2, e3, e4⟩ := E.no hb
      exact ⟨b, z.reverse, a, w.reverse, by rw [e3]; simp, e4, by rw [e1]; simp, e2⟩
  rw [drop_flat _ h2, rev_flat]
  simp only [List.reverse_reverse]
/-- no spelling opens another -/
theorem flat_inj {g : Nat → List Nat} {D : Nat → Prop} (hne : ∀ c, g c ≠ []) (hpf : ∀ c d, D c → D d → c ≠ d → ¬ g c <+: g d) : ∀ (a b : List Nat), (∀ c ∈ a, D c) → (∀ c ∈ b, D c) → a.flatMap g = b.flatMap g → a = b
  | [], [], _, _, _ => rfl
  | [], d :: r, _, _, h => by simp [hne d] at h
  | c :: r, [], _, _, h => by simp [hne c] at h
  | c :: r, d :: q, ha, hb, h => by
    have hc := ha c (by simp)
    have hd := hb d (by simp)
    rw [List.flatMap_cons, List.flatMap_cons] at h
    have hcd : c = d := by
      refine Classical.byContradiction fun hn => ?_
      have h1 : g c <+: g c ++ r.flatMap g := List.prefix_append _ _
      have h2 : g d <+: g c ++ r.flatMap g := by rw [h]; exact List.prefix_append _ _
      rcases List.prefix_or_prefix_of_prefix h1 h2 with h3 | h3
      · exact hpf c d hc hd hn h3
      · exact hpf d c hd hc (fun e => hn e.symm) h3
    subst hcd
    rw [flat_inj hne hpf r q (fun x hx => ha x (by simp [hx])) (fun x hx => hb x (by simp [hx])) (List.append_cancel_left h)]

/-- what stripping leaves of the signs that are no blanks -/
theorem strip_nw {sp q : Nat → Bool} (h : ∀ c, q c = true → sp c = true) (l : List Nat) : (stripL q l).filter (fun c => !sp c) = l.filter (fun c => !sp c) := by
  have key : ∀ l : List Nat, (l.dropWhile q).filter (fun c => !sp c) = l.filter (fun c => !sp c) := by
    intro l
    induction l with
    | nil => rfl
    | cons c r ih =>
      rw [List.dropWhile_cons]
      cases hc : q c with
      | true => simp [h c hc, ih]
      | false => simp
  unfold stripL
  rw [List.filter_reverse, key, List.filter_reverse, key, List.reverse_reverse]

/-- the pieces put together: the text but for backslashes that go -/
noncomputable def jn (st : PSt) : List Nat := joinL [44] (st.res ++ [st.part])
theorem jn_part (rs : List (List Nat)) (pt q : List Nat) (e k e' k' : Bool) : jn ⟨rs, pt ++ q, e, k⟩ = jn ⟨rs, pt, e', k'⟩ ++ q := joinL_last [44] pt q rs
theorem jn_comma (rs : List (List Nat)) (pt : List Nat) (e k e' k' : Bool) : jn ⟨rs ++ [pt], [], e, k⟩ = jn ⟨rs, pt, e', k'⟩ ++ [44] := by
  show joinL [44] (rs ++ [pt] ++ [[]]) = joinL [44] (rs ++ [pt]) ++ [44]
  rw [joinL_snoc _ _ _ (by simp)]; simp
theorem jn_step (st : PSt) (c : Nat) : jn (pstep st c) = jn st ++ [c] ∨ (c = 92 ∧ jn (pstep st c) = jn st) := by
  obtain ⟨rs, pt, e, k⟩ := st
  unfold pstep
  dsimp only
  split
  · exact .inl (jn_part rs pt [c] _ _ e k)
  · split
    · split
      · rename_i h; exact .inr ⟨h, rfl⟩
      · exact .inl (jn_part rs pt [c] _ _ e k)
    · split
      · rename_i h; subst h; exact .inl (jn_comma rs pt _ _ e k)
      · exact .inl (jn_part rs pt [c] _ _ e k)
theorem jn_run : ∀ (t : List Nat) (st : PSt), (jn (run st t)).count 92 ≤ (jn st).count 92 + t.count 92 ∧ ((jn (run st t)).count 92 = (jn st).count 92 + t.count 92 → jn (run st t) = jn st ++ t)
  | [], st => by simp [run]
  | c :: r, st => by
    have ih := jn_run r (pstep st c)
    rw [run_cons]
    rcases jn_step st c with h | ⟨hc, h⟩
    · rw [h] at ih
      simp only [List.count_append] at ih
      have e1 : List.count 92 [c] + List.count 92 r = List.count 92 (c :: r) := by
        rw [show c :: r = [c] ++ r from rfl, List.count_append]
      refine ⟨by omega, fun hh => ?_⟩
      rw [ih.2 (by omega)]; simp
    · subst hc
      rw [h] at ih
      have e1 : List.count 92 (92 :: r) = List.count 92 r + 1 := by simp
      exact ⟨by omega, fun hh => by omega⟩
theorem count_join (a : Nat) (h : a ≠ 44) : ∀ ps : List (List Nat), (joinL [44] ps).count a = ps.flatten.count a
  | [] => rfl
  | [x] => by simp [joinL]
  | x :: y :: r => by
    have ih := count_join a h (y :: r)
    rw [joinL_cons _ _ (by simp), List.count_append, List.count_append, ih]
    have : List.count a [44] = 0 := by simp [List.count_cons]; exact fun e => h e.symm
    simp [this]
theorem filledL_flatten (ps : List (List Nat)) : (filledL ps).flatten = ps.flatten := by
  unfold filledL
  split
  · rename_i h
    have hne : ps ≠ [] := by rintro rfl; simp at h
    conv => rhs; rw [← List.dropLast_concat_getLast hne]
    have e : ps.getLast hne = [] := by rw [List.getLast?_eq_some_getLast hne] at h; exact Option.some.inj h
    rw [e]; simp
  · rfl
/-- what both readings have in common is the same only where they are the same -/
theorem same_reading {sp : Nat → Bool} (h44 : sp 44 = false) (h92 : sp 92 = false) {l : List Nat}
    (h : (parseR l).map (fun p => p.filter fun c => !sp c) = (filledL (splitL 44 l)).map (fun p => p.filter fun c => !sp c)) : parseR l = filledL (splitL 44 l) := by
  have hcnt : ∀ (ps : List (List Nat)) (a : Nat), sp a = false → (ps.map (fun p => p.filter fun c => !sp c)).flatten.count a = ps.flatten.count a := by
    intro ps a ha
    induction ps with
    | nil => rfl
    | cons p r ih =>
      simp only [List.map_cons, List.flatten_cons, List.count_append, ih]
      rw [List.count_filter (by simp [ha])]
  have c92 := congrArg (fun x => x.flatten.count 92) h
  have c44 := congrArg (fun x => x.flatten.count 44) h
  simp only [hcnt _ 92 h92, hcnt _ 44 h44] at c92 c44
  rw [filledL_flatten] at c92 c44
  rw [← filledL_pieces, filledL_flatten] at c92 c44
  have j1 := jn_run l init
  have j0 : jn init = [] := rfl
  rw [j0] at j1
  have e92 : (jn (run init l)).count 92 = l.count 92 := by
    show (joinL [44] ((pfold l).res ++ [(pfold l).part])).count 92 = _
    rw [count_join 92 (by decide), c92, ← count_join 92 (by decide), joinL_splitL]
  have ej := j1.2 (by simpa using e92)
  have e44 : ((pfold l).res ++ [(pfold l).part]).flatten.count 44 = 0 := by
    rw [c44, List.count_eq_zero]
    intro hm
    obtain ⟨p, hp, hc⟩ := List.mem_flatten.mp hm
    exact splitL_mem 44 l p hp hc
  have hfree : ∀ p ∈ (pfold l).res ++ [(pfold l).part], 44 ∉ p := fun p hp hc => by
    have := List.count_eq_zero.mp e44
    exact this (List.mem_flatten.mpr ⟨p, hp, hc⟩)
  have es := splitL_join 44 ((pfold l).res ++ [(pfold l).part]) (by simp) hfree
  have ej' : joinL [44] ((pfold l).res ++ [(pfold l).part]) = l := by have := ej; rw [List.nil_append] at this; exact this
  rw [ej'] at es
  rw [← filledL_pieces, es]
end Mine
end
section
open PySem PySem.W PyProof.Rows PySem.Calls
namespace Mine
structure Gd (K : Frag) (h : Heap) : Prop where
  K : K.In h
  g : ∃ mg, h.Ns mainGlobals mg
  b : ∃ mb, h.Ns builtinsNs mb ∧ ∀ x : Str, x ≠ "__name__" → mb x = bootBuiltins x
  lim : h.NoLimit
theorem Gd.h {K : Frag} {h h' : Heap} (G : Gd K h) (k : ∀ b o, h.get? b = some o → h'.get? b = some o) : Gd K h' :=
  ⟨G.K.keeps k, let ⟨mg, e⟩ := G.g; ⟨mg, e.keeps k⟩, let ⟨mb, e, f⟩ := G.b; ⟨mb, e.keeps k, f⟩, G.lim.keeps k⟩
theorem Gd.k {K : Frag} {s s' : Shared} (G : Gd K s.heap) (k : Kp s s') : Gd K s'.heap := G.h k.keep
section
variable {prog : Program} {w : World} {A : Around} {E : Value → Shared → Prop} {s : Shared} {env : Env} {n : Str} {v : Value} {K : Frag}
theorem nmK {pos : Pos} {Q : Value → Shared → Prop} (G : Gd K s.heap) (e : nsIn K mainGlobals n = some (some v)) (h : Q v s)
    (hg : env.globals = mainGlobals := by rfl) (hk : env.scope.kind = .function := by rfl) (hl : env.kindOf n = some .globalImplicit := by rfl) (hd : (n == ("__debug__" : Str)) = false := by decide) :
    wpAny (model prog w) A (eval (.Name n pos) env) Q E s := by
  obtain ⟨mg, e1⟩ := G.g
  exact nmG (by rw [hg]; exact e1) (mg_of G.K e1 e) h hk hl hd
theorem gcall {pos : Pos} {f : Addr} {o : Obj} {fd : FuncData} {e : Expr} {rest : List Expr} {Q : Value → Shared → Prop} (ho : s.heap.get? f = some o) (hd : o.data = .func fd)
    (h : wpAny (model prog w) A (spliced (backTo pos (starEach (e :: rest) env))) (fun vs s₁ => Kp s s₁ ∧ wpAny (model prog w) A (call (.ref f) vs) Q E s₁) E s)
    (he : starEach (e :: rest) env = (false, eval e env) :: starEach rest env := by rfl) :
    wpAny (model prog w) A (callWith pos (.ref f) [] (backTo pos (starEach (e :: rest) env)) []) Q E s :=
  callWith_def hd (wpAny_mono h (fun vs s₁ h₁ => ⟨h₁.1.keep _ _ ho, h₁.2⟩) fun _ _ x => x) he
theorem nmKB {pos : Pos} {Q : Value → Shared → Prop} (G : Gd K s.heap) (e : nsIn K mainGlobals n = some none) (hv : bootBuiltins n = some v) (h : Q v s) (hn : n ≠ "__name__" := by decide)
    (hg : env.globals = mainGlobals := by rfl) (hb : env.builtins = builtinsNs := by rfl) (hk : env.scope.kind = .function := by rfl) (hl : env.kindOf n = some .globalImplicit := by rfl) (hd : (n == ("__debug__" : Str)) = false := by decide) :
    wpAny (model prog w) A (eval (.Name n pos) env) Q E s := by
  obtain ⟨mg, e1⟩ := G.g
  obtain ⟨mb, e2, e3⟩ := G.b
  exact nmB (by rw [hg]; exact e1) (mg_none_of G.K e1 e) (by rw [hb]; exact e2) ((e3 n hn).trans hv) h hk hl hd
end

noncomputable abbrev K1 (w : World) : Frag := hd1.heap_39 w.params

theorem flat_spell_nil (l : List Nat) : l.flatMap (spell []) = l := by
  induction l with
  | nil => rfl
  | cons a r ih => rw [List.flatMap_cons, ih]; rfl

noncomputable def T0 : List (Nat × List Nat) := [(38, [38, 97, 109, 112, 59]), (60, [38, 108, 116, 59]), (62, [38, 103, 116, 59])]
noncomputable def T1 : List (Nat × List Nat) := [(38, [38, 97, 109, 112, 59]), (60, [38, 108, 116, 59]), (62, [38, 103, 116, 59]), (34, [38, 113, 117, 111, 116, 59]), (13, [38, 35, 49, 51, 59]), (10, [38, 35, 49, 48, 59]), (9, [38, 35, 48, 57, 59])]
noncomputable def T2 : List (Nat × List Nat) := [(38, [38, 97, 109, 112, 59]), (62, [38, 103, 116, 59]), (34, [38, 113, 117, 111, 116, 59])]
noncomputable def T3 : List (Nat × List Nat) := [(38, [38, 97, 109, 112, 59]), (60, [38, 108, 116, 59]), (62, [38, 103, 116, 59]), (13, [38, 35, 120, 68, 59])]
noncomputable def T4 : List (Nat × List Nat) := [(38, [38, 97, 109, 112, 59]), (60, [38, 108, 116, 59]), (34, [38, 113, 117, 111, 116, 59]), (9, [38, 35, 120, 57, 59]), (10, [38, 35, 120, 65, 59]), (13, [38, 35, 120, 68, 59])]
theorem esc0 {prog : Program} {w : World} {A : Around} {s : Shared} {d : Nat} {l : List Nat} {t : Tok} (G : Gd (K1 w) s.heap) (hA : Ok A d) (hl : l.length ≤ 100000) :
    Qt prog w A (call (.ref 33) [.str (S l) t]) (fun v _ => ∃ t', v = .str (S (l.flatMap (spell T0))) t') s := by
  refine fn_rule hA (G.K 33 _ (by rfl)) rfl G.lim (codeRec_of G.K (by kernel_rfl)) rfl (by rfl) rfl (by decide +kernel) (locs (by kernel_rfl)) ?_
  intro L s₁ F₁ ht
  have k₁ : 1 ≤ s₁.toks := Nat.le_trans (Nat.le_add_left 1 _) ht
  refine wpAny_execs_cons (wpAny_Try_except ?_)
  refine wpAny_execs_cons (esc_step (l := l) (T := []) (c := 38) (z := [38, 97, 109, 112, 59]) F₁ (by rw [flat_spell_nil]; rfl) k₁ hl ?_)
  intro s₂ m₂ t₂ F₂ h₂ k₂
  refine wpAny_execs_cons (esc_step (l := l) (c := 60) (z := [38, 108, 116, 59]) F₂ h₂ k₂ hl ?_)
  intro s₃ m₃ t₃ F₃ h₃ k₃
  refine wpAny_execs_cons (esc_step (l := l) (c := 62) (z := [38, 103, 116, 59]) F₃ h₃ k₃ hl ?_)
  intro s₄ m₄ t₄ F₄ h₄ k₄
  exact wpAny_execs_cons (wpAny_Return_some (nmL F₄ h₄ ⟨⟨_, rfl⟩, F₄.base⟩))
theorem esc1 {prog : Program} {w : World} {A : Around} {s : Shared} {d : Nat} {l : List Nat} {t : Tok} (G : Gd (K1 w) s.heap) (hA : Ok A d) (hl : l.length ≤ 100000) :
    Qt prog w A (call (.ref 40) [.str (S l) t]) (fun v _ => ∃ t', v = .str (S (l.flatMap (spell T1))) t') s := by
  refine fn_rule hA (G.K 40 _ (by rfl)) rfl G.lim (codeRec_of G.K (by kernel_rfl)) rfl (by rfl) rfl (by decide +kernel) (locs (by kernel_rfl)) ?_
  intro L s₁ F₁ ht
  have k₁ : 1 ≤ s₁.toks := Nat.le_trans (Nat.le_add_left 1 _) ht
  refine wpAny_execs_cons (wpAny_Try_except ?_)
  refine wpAny_execs_cons (esc_step (l := l) (T := []) (c := 38) (z := [38, 97, 109, 112, 59]) F₁ (by rw [flat_spell_nil]; rfl) k₁ hl ?_)
  intro s₂ m₂ t₂ F₂ h₂ k₂
  refine wpAny_execs_cons (esc_step (l := l) (c := 60) (z := [38, 108, 116, 59]) F₂ h₂ k₂ hl ?_)
  intro s₃ m₃ t₃ F₃ h₃ k₃
  refine wpAny_execs_cons (esc_step (l := l) (c := 62) (z := [38, 103, 116, 59]) F₃ h₃ k₃ hl ?_)
  intro s₄ m₄ t₄ F₄ h₄ k₄
  refine wpAny_execs_cons (esc_step (l := l) (c := 34) (z := [38, 113, 117, 111, 116, 59]) F₄ h₄ k₄ hl ?_)
  intro s₅ m₅ t₅ F₅ h₅ k₅
  refine wpAny_execs_cons (esc_step (l := l) (c := 13) (z := [38, 35, 49, 51, 59]) F₅ h₅ k₅ hl ?_)
  intro s₆ m₆ t₆ F₆ h₆ k₆
  refine wpAny_execs_cons (esc_step (l := l) (c := 10) (z := [38, 35, 49, 48, 59]) F₆ h₆ k₆ hl ?_)
  intro s₇ m₇ t₇ F₇ h₇ k₇
  refine wpAny_execs_cons (esc_step (l := l) (c := 9) (z := [38, 35, 48, 57, 59]) F₇ h₇ k₇ hl ?_)
  intro s₈ m₈ t₈ F₈ h₈ k₈
  exact wpAny_execs_cons (wpAny_Return_some (nmL F₈ h₈ ⟨⟨_, rfl⟩, F₈.base⟩))
theorem esc2 {prog : Program} {w : World} {A : Around} {s : Shared} {d : Nat} {l : List Nat} {t : Tok} (G : Gd (K1 w) s.heap) (hA : Ok A d) (hl : l.length ≤ 100000) :
    Qt prog w A (call (.ref 47) [.str (S l) t]) (fun v _ => ∃ t', v = .str (S (l.flatMap (spell T2))) t') s := by
  refine fn_rule hA (G.K 47 _ (by rfl)) rfl G.lim (codeRec_of G.K (by kernel_rfl)) rfl (by rfl) rfl (by decide +kernel) (locs (by kernel_rfl)) ?_
  intro L s₁ F₁ ht
  have k₁ : 1 ≤ s₁.toks := Nat.le_trans (Nat.le_add_left 1 _) ht
  refine wpAny_execs_cons (wpAny_Try_except ?_)
  refine wpAny_execs_cons (esc_step (l := l) (T := []) (c := 38) (z := [38, 97, 109, 112, 59]) F₁ (by rw [flat_spell_nil]; rfl) k₁ hl ?_)
  intro s₂ m₂ t₂ F₂ h₂ k₂
  refine wpAny_execs_cons (esc_step (l := l) (c := 62) (z := [38, 103, 116, 59]) F₂ h₂ k₂ hl ?_)
  intro s₃ m₃ t₃ F₃ h₃ k₃
  refine wpAny_execs_cons (esc_step (l := l) (c := 34) (z := [38, 113, 117, 111, 116, 59]) F₃ h₃ k₃ hl ?_)
  intro s₄ m₄ t₄ F₄ h₄ k₄
  exact wpAny_execs_cons (wpAny_Return_some (nmL F₄ h₄ ⟨⟨_, rfl⟩, F₄.base⟩))
theorem esc3 {prog : Program} {w : World} {A : Around} {s : Shared} {d : Nat} {l : List Nat} {t : Tok} (G : Gd (K1 w) s.heap) (hA : Ok A d) (hl : l.length ≤ 100000) :
    Qt prog w A (call (.ref 54) [.str (S l) t]) (fun v _ => ∃ t', v = .str (S (l.flatMap (spell T3))) t') s := by
  refine fn_rule hA (G.K 54 _ (by rfl)) rfl G.lim (codeRec_of G.K (by kernel_rfl)) rfl (by rfl) rfl (by decide +kernel) (locs (by kernel_rfl)) ?_
  intro L s₁ F₁ ht
  have k₁ : 1 ≤ s₁.toks := Nat.le_trans (Nat.le_add_left 1 _) ht
  refine wpAny_execs_cons (wpAny_Try_except ?_)
  refine wpAny_execs_cons (esc_step (l := l) (T := []) (c := 38) (z := [38, 97, 109, 112, 59]) F₁ (by rw [flat_spell_nil]; rfl) k₁ hl ?_)
  intro s₂ m₂ t₂ F₂ h₂ k₂
  refine wpAny_execs_cons (esc_step (l := l) (c := 60) (z := [38, 108, 116, 59]) F₂ h₂ k₂ hl ?_)
  intro s₃ m₃ t₃ F₃ h₃ k₃
  refine wpAny_execs_cons (esc_step (l := l) (c := 62) (z := [38, 103, 116, 59]) F₃ h₃ k₃ hl ?_)
  intro s₄ m₄ t₄ F₄ h₄ k₄
  refine wpAny_execs_cons (esc_step (l := l) (c := 13) (z := [38, 35, 120, 68, 59]) F₄ h₄ k₄ hl ?_)
  intro s₅ m₅ t₅ F₅ h₅ k₅
  exact wpAny_execs_cons (wpAny_Return_some (nmL F₅ h₅ ⟨⟨_, rfl⟩, F₅.base⟩))
theorem esc4 {prog : Program} {w : World} {A : Around} {s : Shared} {d : Nat} {l : List Nat} {t : Tok} (G : Gd (K1 w) s.heap) (hA : Ok A d) (hl : l.length ≤ 100000) :
    Qt prog w A (call (.ref 61) [.str (S l) t]) (fun v _ => ∃ t', v = .str (S (l.flatMap (spell T4))) t') s := by
  refine fn_rule hA (G.K 61 _ (by rfl)) rfl G.lim (codeRec_of G.K (by kernel_rfl)) rfl (by rfl) rfl (by decide +kernel) (locs (by kernel_rfl)) ?_
  intro L s₁ F₁ ht
  have k₁ : 1 ≤ s₁.toks := Nat.le_trans (Nat.le_add_left 1 _) ht
  refine wpAny_execs_cons (wpAny_Try_except ?_)
  refine wpAny_execs_cons (esc_step (l := l) (T := []) (c := 38) (z := [38, 97, 109, 112, 59]) F₁ (by rw [flat_spell_nil]; rfl) k₁ hl ?_)
  intro s₂ m₂ t₂ F₂ h₂ k₂
  refine wpAny_execs_cons (esc_step (l := l) (c := 60) (z := [38, 108, 116, 59]) F₂ h₂ k₂ hl ?_)
  intro s₃ m₃ t₃ F₃ h₃ k₃
  refine wpAny_execs_cons (esc_step (l := l) (c := 34) (z := [38, 113, 117, 111, 116, 59]) F₃ h₃ k₃ hl ?_)
  intro s₄ m₄ t₄ F₄ h₄ k₄
  refine wpAny_execs_cons (esc_step (l := l) (c := 9) (z := [38, 35, 120, 57, 59]) F₄ h₄ k₄ hl ?_)
  intro s₅ m₅ t₅ F₅ h₅ k₅
  refine wpAny_execs_cons (esc_step (l := l) (c := 10) (z := [38, 35, 120, 65, 59]) F₅ h₅ k₅ hl ?_)
  intro s₆ m₆ t₆ F₆ h₆ k₆
  refine wpAny_execs_cons (esc_step (l := l) (c := 13) (z := [38, 35, 120, 68, 59]) F₆ h₆ k₆ hl ?_)
  intro s₇ m₇ t₇ F₇ h₇ k₇
  exact wpAny_execs_cons (wpAny_Return_some (nmL F₇ h₇ ⟨⟨_, rfl⟩, F₇.base⟩))
end Mine
end
section
open PySem PySem.W PyProof.Rows PySem.Calls
namespace Mine
/-- what stands ahead of the i-th sign -/
noncomputable def PJ {s₀ sx : Shared} {L : Addr} {cs : List (Str × Addr)} {mx cm : Str → Option Value} (_ : Fs s₀ L mx cs cm sx) (r : Addr) (st : PSt) (s : Shared) : Prop :=
  ∃ m us t, Fs s₀ L m cs cm s ∧ m "res" = some (.ref r) ∧ m "part" = some (.str (S st.part) t) ∧ m "escape" = some (.bool st.esc) ∧ m "quote" = some (.bool st.quo) ∧
    s.heap.PlainList r us.toArray ∧ StrsAre us (st.res.map S)
noncomputable def Fs.X {s₀ sx : Shared} {L : Addr} {cs : List (Str × Addr)} {mx cm : Str → Option Value} (_ : Fs s₀ L mx cs cm sx) (b : Addr) : Prop := Mx L cs b

noncomputable def PE {s₀ sx : Shared} {L : Addr} {cs : List (Str × Addr)} {m cm : Str → Option Value} (_ : Fs s₀ L m cs cm sx) (r : Addr) (ps : List (List Nat)) (f : Flow) (s : Shared) : Prop :=
  f = .next ∧ Fs s₀ L m cs cm s ∧ ∃ us, s.heap.PlainList r us.toArray ∧ StrsAre us (ps.map S)
section
variable {prog : Program} {w : World} {A : Around} {E : Value → Shared → Prop} {s₀ s : Shared} {m cm : Str → Option Value} {env : Env} {n k : Str}
/-- n += k -/
theorem st_iadd {x y : List Nat} {t u : Tok} {p1 p2 p3 : Pos} {Q : Flow → Shared → Prop} (F : Fs s₀ env.locals m env.cells cm s) (hn : m n = some (.str (S x) t)) (hk' : m k = some (.str (S y) u)) (hsz : x.length + y.length ≤ 16777216)
    (h : ∀ s' t', Fs s₀ env.locals (Upd m n (.str (S (x ++ y)) t')) env.cells cm s' → Up (Mx env.locals env.cells) s s' → Q .next s')
    (hk : env.scope.kind = .function := by rfl) (hl : env.kindOf n = some .local := by rfl) (hl' : env.kindOf k = some .local := by rfl) (hd' : (k == ("__debug__" : Str)) = false := by decide) :
    wpAny (model prog w) A (exec (.AugAssign (.Name n p1) .Add (.Name k p2) p3) env) Q E s := by
  refine wpAny_AugAssign_Name (ldLC F.inC hk hl hn (nmL F hk' ?_ hk hl' hd'))
  refine (q_iadd hsz).then fun v s₁ ⟨t', e⟩ k₁ => ?_
  subst e
  exact stL (F.k k₁) (fun s₂ F₂ u₂ => h s₂ t' F₂ ((Up.of k₁).trans u₂)) hk hl
/-- n = True, n = False -/
theorem st_bool {b : Bool} {q : Nat} {p1 p2 p3 : Pos} {Q : Flow → Shared → Prop} (F : Fs s₀ env.locals m env.cells cm s)
    (h : ∀ s', Fs s₀ env.locals (Upd m n (.bool b)) env.cells cm s' → Up (Mx env.locals env.cells) s s' → Q .next s')
    (hk : env.scope.kind = .function := by rfl) (hl : env.kindOf n = some .local := by rfl) :
    wpAny (model prog w) A (exec (.Assign [.Name n p1] (.Constant (.bool b) q p2) p3) env) Q E s :=
  wpAny_Assign_Name (Constant_bool (stL F h hk hl))
/-- n == 'c' -/
theorem is_sign {x : List Nat} {t : Tok} {y : Str} {c : Nat} {q : Nat} {p1 p2 p3 : Pos} {whole : Sem Value} {Q : Bool → Shared → Prop} (F : Fs s₀ env.locals m env.cells cm s) (hn : m n = some (.str (S x) t))
    (h : Q (decide (x = [c])) { s with toks := s.toks + 1 }) (hy : y = S [c] := by decide +kernel)
    (hk : env.scope.kind = .function := by rfl) (hl : env.kindOf n = some .local := by rfl) (hd : (n == ("__debug__" : Str)) = false := by decide) :
    wpAny (model prog w) A (isTrue (.Compare (.Name n p1) [.Eq] [.Constant (.str y) q p2] p3) env whole) Q E s := by
  subst hy
  exact wpAny_isTrue_Compare1 (nmL F hn (Constant_str (eq_S (wpAny_truthy_bool h))) hk hl hd)
end

theorem parse_spec {prog : Program} {w : World} {A : Around} {s : Shared} {d : Nat} {l : List Nat} {t : Tok} (G : Gd (K1 w) s.heap) (hA : Ok A d) (hl : l.length ≤ 1000000) :
    Qt prog w A (call (.ref 19) [.str (S l) t]) (fun v s' => ∃ a vs, v = .ref a ∧ s.heap.get? a = none ∧ s'.heap.PlainList a vs.toArray ∧ StrsAre vs ((parseL l).map S)) s := by
  refine fn_rule hA (G.K 19 _ (by rfl)) rfl G.lim (codeRec_of G.K (by kernel_rfl)) rfl (by rfl) rfl (by decide +kernel) (locs (by kernel_rfl)) ?_
  intro L s₁ F₁ ht
  -- res = []
  refine wpAny_execs_cons (wpAny_Assign_Name (List_ (args_nil ((q_newList (by rw [sizeLine_eq]; simp)).then fun v s₂ hv k₂ => ?_))))
  obtain ⟨r, rfl, hr0, hr⟩ := hv
  have h0 : s.heap.get? r = none := by
    cases e : s.heap.get? r with
    | none => rfl
    | some o => have := F₁.base.keep _ _ e; rw [hr0] at this; cases this
  have F₂ := F₁.k k₂
  refine stL F₂ fun s₃ F₃ u₃ => ?_
  have hr₃ := PL.up hr F₂ u₃
  -- part = ''
  refine wpAny_execs_cons (wpAny_Assign_Name (Constant_str (stL (F₃.k (Kp.tok (Nat.le_succ _))) fun s₄ F₄ u₄ => ?_)))
  have hr₄ := PL.up (PL.k hr₃ (Kp.tok (Nat.le_succ _))) (F₃.k (Kp.tok (Nat.le_succ _))) u₄
  -- escape = quote = False
  refine wpAny_execs_cons (wpAny_Assign_two (Constant_bool (wpAny_assign_Name (stL F₄ fun s₅ F₅ u₅ => wpAny_assign_Name (stL F₅ fun s₆ F₆ u₆ => ?_)))))
  have hr₆ := PL.up (PL.up hr₄ F₄ u₅) F₅ u₆
  -- for cur in s
  refine wpAny_execs_cons (st_for (n := l.length) (P := SignAt (S l)) (Y := []) hA.1 (fun b => F₆.X b ∨ b = r) (fun i s' => PJ F₆ r (pfold (l.take i)) s') ?_ ?_ ?_ ?_ ?_ ?_)
  · refine nmL F₆ (v := .str (S l) t) (by rfl) ⟨?_, Kp.rfl'⟩
    have := src_str (prog := prog) (w := w) (s := s₆) (x := S l) (t := t)
    simpa using this
  · rintro b (hb | rfl)
    · exact ⟨by simp, F₆.has hb⟩
    · obtain ⟨n, ho⟩ := hr₆; exact ⟨by simp, _, ho⟩
  · intro s₇ k₇
    exact ⟨_, [], _, F₆.k k₇, by rfl, by rfl, by rfl, by rfl, PL.k hr₆ k₇, StrsAre.nil⟩
  · rintro I i sa sb hI ⟨m, us, t, F, a1, a2, a3, a4, a5, a6⟩ hIt u
    refine ⟨m, us, t, F.it hIt ?_ u, a1, a2, a3, a4, PL.it a5 hIt u, a6⟩
    cases e : s.heap.get? I with
    | none => rfl
    | some o => have := F₆.base.keep _ _ e; rw [hI] at this; cases this
  · rintro i v sa hi ⟨c, u, hc, rfl⟩ ⟨m, us, t, F, a1, a2, a3, a4, a5, a6⟩
    have hst := pfold_snoc hc
    have hlen := pfold_lens l i
    skip
    rw [hst]
    generalize pfold (l.take i) = st at a2 a3 a4 a6 hlen
    obtain ⟨rs, pt, es, qu⟩ := st
    dsimp only at a2 a3 a4 a6 hlen
    refine wpAny_assign_Name (stL F fun sb Fb ub => ?_)
    have rb := PL.up a5 F ub
    have b0 : Upd m "cur" (.str (S [c]) u) "cur" = _ := Upd.hit
    have b1 := Upd.miss (n := "cur") (v := .str (S [c]) u) (by decide) a1
    have b2 := Upd.miss (n := "cur") (v := .str (S [c]) u) (by decide) a2
    have b3 := Upd.miss (n := "cur") (v := .str (S [c]) u) (by decide) a3
    have b4 := Upd.miss (n := "cur") (v := .str (S [c]) u) (by decide) a4
    generalize Upd m "cur" (.str (S [c]) u) = mb at b0 b1 b2 b3 b4 Fb
    have up1 : ∀ {s₃ : Shared}, Up (Mx _ _) sb s₃ → Up (fun b => F₆.X b ∨ b = r) sa s₃ := fun u => (ub.trans u).mono fun _ h => .inl h
    have hlen1 : pt.length + [c].length ≤ 16777216 := by have := hlen.1; simp; omega
    -- if escape
    refine wpAny_execs_cons (wpAny_If (isTrue_plain (nmL Fb b3 (wpAny_truthy_bool ?_))))
    cases es with
    | true =>
      simp only [if_true]
      refine wpAny_execs_cons (st_iadd Fb b2 b0 hlen1 fun sc tc Fc uc => ?_)
      refine wpAny_execs_cons (st_bool Fc fun sd Fd ud => ?_)
      refine wpAny_execs_cons (wpAny_Continue ?_)
      refine ⟨⟨_, us, tc, Fd, ?_, ?_, ?_, ?_, PL.up (PL.up rb Fb uc) Fc ud, ?_⟩, up1 (uc.trans ud)⟩
      · exact Upd.miss (by decide) (Upd.miss (by decide) b1)
      · exact Upd.miss (by decide) Upd.hit
      · exact Upd.hit
      · exact Upd.miss (by decide) (Upd.miss (by decide) b4)
      · exact a6
    | false =>
      simp only [Bool.false_eq_true, if_false]
      refine wpAny_execs_nil ?_
      -- if quote
      refine wpAny_execs_cons (wpAny_If (isTrue_plain (nmL Fb b4 (wpAny_truthy_bool ?_))))
      cases qu with
      | true =>
        simp only [if_true]
        refine wpAny_execs_cons (wpAny_If (is_sign (c := 92) Fb b0 ?_))
        by_cases h92 : c = 92
        · subst h92
          simp only [decide_true, if_true]
          refine wpAny_execs_cons (st_bool (Fb.k (Kp.tok (Nat.le_succ _))) fun sd Fd ud => ?_)
          refine wpAny_execs_cons (wpAny_Continue ?_)
          have kk : Kp sb { sb with toks := sb.toks + 1 } := Kp.tok (Nat.le_succ _)
          refine ⟨⟨_, us, t, Fd, ?_, ?_, ?_, ?_, PL.up (PL.k rb kk) (Fb.k kk) ud, ?_⟩, up1 ((Up.of kk).trans ud)⟩
          · exact Upd.miss (by decide) b1
          · exact Upd.miss (by decide) b2
          · exact Upd.hit
          · exact Upd.miss (by decide) b4
          · exact a6
        · have e92 : decide (([c] : List Nat) = [92]) = false := by simp [h92]
          simp only [e92, Bool.false_eq_true, if_false]
          have kk : Kp sb { sb with toks := sb.toks + 1 } := Kp.tok (Nat.le_succ _)
          have kk2 : Kp sb { sb with toks := sb.toks + 1 + 1 } := Kp.tok (by omega)
          refine wpAny_execs_cons (wpAny_If (is_sign (c := 34) (Fb.k kk) b0 ?_))
          have hps : pstep ⟨rs, pt, false, true⟩ c = ⟨rs, pt ++ [c], false, decide (c ≠ 34)⟩ := by simp [pstep, h92]
          rw [hps]
          by_cases h34 : c = 34
          · subst h34
            simp only [decide_true, if_true]
            refine wpAny_execs_cons (st_bool (Fb.k kk2) fun sd Fd ud => wpAny_execs_nil (wpAny_execs_nil ?_))
            refine wpAny_execs_cons (st_iadd Fd (Upd.miss (by decide) b2) (Upd.miss (by decide) b0) hlen1 fun se te Fe ue => wpAny_execs_cons (wpAny_Continue ?_))
            refine ⟨⟨_, us, te, Fe, Upd.miss (by decide) (Upd.miss (by decide) b1), Upd.hit, Upd.miss (by decide) (Upd.miss (by decide) b3), Upd.miss (by decide) Upd.hit, PL.up (PL.up (PL.k rb kk2) (Fb.k kk2) ud) Fd ue, a6⟩, up1 (((Up.of kk2).trans ud).trans ue)⟩
          · have e34 : decide (([c] : List Nat) = [34]) = false := by simp [h34]
            simp only [e34, Bool.false_eq_true, if_false]
            refine wpAny_execs_nil (wpAny_execs_nil ?_)
            refine wpAny_execs_cons (st_iadd (Fb.k kk2) b2 b0 hlen1 fun se te Fe ue => wpAny_execs_cons (wpAny_Continue ?_))
            refine ⟨⟨_, us, te, Fe, Upd.miss (by decide) b1, Upd.hit, Upd.miss (by decide) b3, ?_, PL.up (PL.k rb kk2) (Fb.k kk2) ue, a6⟩, up1 ((Up.of kk2).trans ue)⟩
            rw [show decide (c ≠ 34) = true from by simp [h34]]
            exact Upd.miss (by decide) b4
      | false =>
        simp only [Bool.false_eq_true, if_false]
        refine wpAny_execs_nil ?_
        have kk : Kp sb { sb with toks := sb.toks + 1 } := Kp.tok (Nat.le_succ _)
        have kk2 : Kp sb { sb with toks := sb.toks + 1 + 1 } := Kp.tok (by omega)
        -- if cur == ','
        refine wpAny_execs_cons (wpAny_If (is_sign (c := 44) Fb b0 ?_))
        by_cases h44 : c = 44
        · subst h44
          simp only [decide_true, if_true]
          have hps : pstep ⟨rs, pt, false, false⟩ 44 = ⟨rs ++ [pt], [], false, false⟩ := by simp [pstep]
          rw [hps]
          have rk := PL.k rb kk
          refine wpAny_execs_cons (wpAny_Expr (Call_method1 rfl rfl rfl (nmL (Fb.k kk) b1 (onList PySem.F.slot_list_append PySem.F.type_list_append rk (cw1 (nmL (Fb.k kk) b2 ?_))))))
          have hus : us.length ≤ sizeLine := by
            have := a6.length
            rw [this, List.length_map, sizeLine_eq]; have := hlen.2; omega
          refine wpAny_mono (q_append (E := fun _ _ => False) rk hus) (fun x sc hx => ?_) fun _ _ f => f
          obtain ⟨rfl, rc, uc⟩ := hx
          dsimp only
          have Fc := (Fb.k kk).app rk h0 uc
          refine wpAny_execs_cons (wpAny_Assign_Name (Constant_str (stL (Fc.k (Kp.tok (Nat.le_succ _))) fun sd Fd ud => wpAny_execs_cons (wpAny_Continue ?_))))
          have kc : Kp sc { sc with toks := sc.toks + 1 } := Kp.tok (Nat.le_succ _)
          refine ⟨⟨_, us ++ [.str (S pt) t], _, Fd, Upd.miss (by decide) b1, Upd.hit, Upd.miss (by decide) b3, Upd.miss (by decide) b4, PL.up (PL.k rc kc) (Fc.k kc) ud, ?_⟩, ?_⟩
          · rw [List.map_append]; exact a6.append' (.cons _ _ .nil)
          · refine (((ub.trans (Up.of kk)).mono fun _ h => .inl h).trans (uc.mono fun _ h => .inr h)).trans (((Up.of kc).trans ud).mono fun _ h => .inl h)
        · have e44 : decide (([c] : List Nat) = [44]) = false := by simp [h44]
          simp only [e44, Bool.false_eq_true, if_false]
          refine wpAny_execs_nil ?_
          have hps : pstep ⟨rs, pt, false, false⟩ c = ⟨rs, pt ++ [c], false, decide (c = 34)⟩ := by simp [pstep, h44]
          rw [hps]
          refine wpAny_execs_cons (wpAny_If (is_sign (c := 34) (Fb.k kk) b0 ?_))
          by_cases h34 : c = 34
          · subst h34
            simp only [decide_true, if_true]
            refine wpAny_execs_cons (st_bool (Fb.k kk2) fun sd Fd ud => wpAny_execs_nil ?_)
            refine wpAny_execs_cons (st_iadd Fd (Upd.miss (by decide) b2) (Upd.miss (by decide) b0) hlen1 fun se te Fe ue => wpAny_execs_nil ?_)
            refine ⟨⟨_, us, te, Fe, Upd.miss (by decide) (Upd.miss (by decide) b1), Upd.hit, Upd.miss (by decide) (Upd.miss (by decide) b3), Upd.miss (by decide) Upd.hit, PL.up (PL.up (PL.k rb kk2) (Fb.k kk2) ud) Fd ue, a6⟩, up1 (((Up.of kk2).trans ud).trans ue)⟩
          · have e34 : decide (([c] : List Nat) = [34]) = false := by simp [h34]
            simp only [e34, Bool.false_eq_true, if_false]
            refine wpAny_execs_nil ?_
            refine wpAny_execs_cons (st_iadd (Fb.k kk2) b2 b0 hlen1 fun se te Fe ue => wpAny_execs_nil ?_)
            refine ⟨⟨_, us, te, Fe, Upd.miss (by decide) b1, Upd.hit, Upd.miss (by decide) b3, ?_, PL.up (PL.k rb kk2) (Fb.k kk2) ue, a6⟩, up1 ((Up.of kk2).trans ue)⟩
            rw [show decide (c = 34) = false from by simp [h34]]
            exact Upd.miss (by decide) b4
  · rintro sa ⟨m, us, t', F, a1, a2, a3, a4, a5, a6⟩
    rw [List.take_length] at a2 a3 a4 a6
    have hlens := pfold_lens l l.length
    rw [List.take_length] at hlens
    -- if part: res.append(part)
    refine wpAny_execs_cons (wpAny_mono (Q := PE F r (parseR l)) (E := fun _ _ => False) ?_ ?_ (fun _ _ f => f))
    · refine wpAny_If (isTrue_plain (nmL F a2 ((q_truthy (by omega)).then fun b sb hb kb => ?_)))
      have Fb := F.k kb
      have rb := PL.k a5 kb
      by_cases hp : (pfold l).part = []
      · have hR : parseR l = (pfold l).res := by simp [parseR, hp]
        rw [hp] at hb
        subst hb
        simp only [ne_eq, not_true_eq_false, decide_false, Bool.false_eq_true, if_false]
        exact wpAny_execs_nil ⟨rfl, Fb, us, rb, by rw [hR]; exact a6⟩
      · have hR : parseR l = (pfold l).res ++ [(pfold l).part] := by simp [parseR, hp]
        subst hb
        simp only [ne_eq, hp, not_false_eq_true, decide_true, if_true]
        have hus : us.length ≤ sizeLine := by
          have := a6.length
          rw [this, List.length_map, sizeLine_eq]; omega
        refine wpAny_execs_cons (wpAny_Expr (Call_method1 rfl rfl rfl (nmL Fb a1 (onList PySem.F.slot_list_append PySem.F.type_list_append rb (cw1 (nmL Fb a2 ?_))))))
        refine wpAny_mono (q_append (E := fun _ _ => False) rb hus) (fun x sc hx => ?_) fun _ _ f => f
        obtain ⟨rfl, rc, uc⟩ := hx
        exact wpAny_execs_nil ⟨rfl, Fb.app rb h0 uc, _, rc, by rw [hR, List.map_append]; exact a6.append' (.cons _ _ .nil)⟩
    · rintro f sb ⟨rfl, Fb, us, rb, hus⟩
      have hlen : us.length = (parseR l).length := by rw [hus.length, List.length_map]
      have hl1 := parseR_length l
      -- return [part.strip() for part in res]
      refine wpAny_execs_cons (wpAny_Return_some ?_)
      refine c_comp (n := us.length) (P := fun i v => us[i]? = some v) (Y := [r]) (cl := []) (fun _ => true) (ToS (stripL Unicode.isSpace)) hA.1 (by rw [sizeLine_eq]; omega) (nmL Fb a1 ⟨src_list rb.isList, Kp.rfl'⟩) ?_ ?_ ?_
      · intro C i v s₃ m₃ hP hns hm hk
        exact q_notest (v := v) rfl
      · intro C i v s₃ m₃ hP _ hns hm hk
        obtain ⟨x, tx, rfl, hx, _⟩ := strs_at hus hP
        have := parseR_items l x hx
        refine Call_method0 rfl rfl (nmN hns hm (onStr PySem.F.slot_str_strip PySem.F.type_str_strip (cw0 ((q_strip (by omega)).mono fun v s' ⟨t', e⟩ k => ?_))))
        subst e
        intro x' t'' e
        cases e
        exact ⟨t', rfl⟩
      · rintro a sc ha kc ⟨vs', ys, hpl, hvl, hvP, hpair⟩
        have e := same_items hvl hvP
        subst e
        rw [filter_all] at hpair
        refine ⟨⟨a, ys, rfl, ?_, hpl, paired_strs hus hpair⟩, Fb.base.trans kc⟩
        cases e : s.heap.get? a with
        | none => rfl
        | some o => have := Fb.base.keep _ _ e; rw [ha] at this; cases this
end Mine
end
section
open PySem PySem.W PyProof.Rows PySem.Calls
namespace Mine

section
variable {prog : Program} {w : World} {A : Around} {E : Value → Shared → Prop} {s : Shared}
/-- xs[-1] -/
theorem at_last {value slice : Expr} {a : Addr} {vs : List Value} {v : Value} {u : Tok} {Q : Value → Shared → Prop} (hl : s.heap.IsList a vs.toArray) (hv : vs.getLast? = some v) (h : Q v s)
    (hs : subscripted slice false (.ref a) (.int (-1) u) = operate [.ref a, .int (-1) u] (getItem (.ref a) (.int (-1) u)) := by with_unfolding_all rfl) :
    wpAny (model prog w) A (subscriptTail value slice (.ref a) (.int (-1) u)) Q E s := by
  have hne : vs ≠ [] := by rintro rfl; simp at hv
  have hlen : 1 ≤ vs.length := by cases vs with | nil => exact absurd rfl hne | cons a r => simp
  refine tail_any hl.typeIs list_getitem_lookup (wpAny_getItem_list_neg hl (by omega) (by rw [List.size_toArray]; omega) (by omega) ?_ h) hs
  have e : ((-1 : Int) + (vs.toArray.size : Int)).toNat = vs.length - 1 := by rw [List.size_toArray]; omega
  rw [e]
  rw [List.getLast?_eq_getElem?] at hv
  simpa using hv
end

theorem strs_last {vs : List Value} {ps : List (List Nat)} (h : StrsAre vs (ps.map S)) (hne : ps ≠ []) : ∃ x t, vs.getLast? = some (.str (S x) t) ∧ ps.getLast? = some x := by
  have hl : vs.length = ps.length := by rw [h.length, List.length_map]
  have hlt : vs.length - 1 < vs.length := by
    have : 1 ≤ ps.length := by cases ps with | nil => exact absurd rfl hne | cons a r => simp
    omega
  have e : vs[vs.length - 1]? = some vs[vs.length - 1] := List.getElem?_eq_getElem hlt
  obtain ⟨x, t, hx, _, hp⟩ := strs_at h e
  refine ⟨x, t, ?_, ?_⟩
  · rw [List.getLast?_eq_getElem?, e, hx]
  · rw [List.getLast?_eq_getElem?, ← hl, hp]
theorem filled_spec {prog : Program} {w : World} {A : Around} {s : Shared} {d : Nat} {a : Addr} {vs : List Value} {ps : List (List Nat)} (G : Gd (K1 w) s.heap) (hA : Ok A d)
    (hl : s.heap.IsList a vs.toArray) (hs : StrsAre vs (ps.map S)) (hne : ps ≠ []) (hlen : ps.length ≤ 1000000) :
    Qt prog w A (call (.ref 73) [.ref a]) (fun v s' => ∃ a vs, v = .ref a ∧ s'.heap.IsList a vs.toArray ∧ StrsAre vs ((filledL ps).map S)) s := by
  refine fn_rule hA (G.K 73 _ (by rfl)) rfl G.lim (codeRec_of G.K (by kernel_rfl)) rfl (by rfl) rfl (by decide +kernel) (locs (by kernel_rfl)) ?_
  intro L s₁ F₁ ht
  have hl₁ := hl.at fun o e => F₁.base.keep _ _ e
  obtain ⟨x, tx, hv, hp⟩ := strs_last hs hne
  have hvl : vs.length = ps.length := by rw [hs.length, List.length_map]
  refine wpAny_execs_cons (wpAny_Return_some (IfExp_ (wpAny_isTrue_Compare1 (Subscript_ (nmL F₁ (v := .ref a) (by rfl) (UnaryOp_ (wpAny_Constant_int (P.neg_int ?_))))))))
  have k₂ : Kp s₁ { s₁ with toks := s₁.toks + 1 + 1 } := Kp.tok (by omega)
  refine at_last (hl₁.at fun o e => k₂.keep _ _ e) hv (Constant_str (eq_S (y := []) (wpAny_truthy_bool ?_)))
  have k₃ : Kp s₁ { s₁ with toks := s₁.toks + 1 + 1 + 1 } := Kp.tok (by omega)
  have F₃ := F₁.k k₃
  have hl₃ := hl₁.at fun o e => k₃.keep _ _ e
  by_cases hx : x = []
  · subst hx
    simp only [decide_true, if_true]
    refine Subscript_ (nmL F₃ (v := .ref a) (by rfl) (wpAny_Slice (evalPart_none_step (evalPart_some_step (UnaryOp_ (wpAny_Constant_int (P.neg_int (evalPart_none_step ?_))))))))
    refine slice_listK (s := { s₁ with toks := s₁.toks + 1 + 1 + 1 + 1 + 1 }) (hl₁.at fun o e => e) .none (.int _ _) ?_ (hsz := by rw [List.size_toArray, sizeLine_eq]; omega)
    have e := slicePick_butLast vs.toArray 1 (Nat.le_refl _)
    have e2 : slicePick vs.toArray none (some (-1)) none = (vs.take (vs.length - 1)).toArray := by
      rw [show (-1 : Int) = -((1 : Nat) : Int) from rfl, e]; simp
    refine ⟨⟨_, vs.take (vs.length - 1), rfl, ?_, ?_⟩, ?_⟩
    · rw [← e2]; exact isList_pushed2 _ _ _
    · have : filledL ps = ps.take (vs.length - 1) := by
        unfold filledL; rw [if_pos hp, List.dropLast_eq_take, hvl]
      rw [this]; exact strs_take hs _
    · exact F₁.base.trans ((Kp.tok (k := s₁.toks + 1 + 1 + 1 + 1 + 1) (by omega)).trans ((Kp.push _).trans (Kp.push _)))
  · simp only [hx, decide_false, Bool.false_eq_true, if_false]
    refine nmL F₃ (v := .ref a) (by rfl) ⟨⟨a, vs, rfl, hl₃, ?_⟩, F₃.base⟩
    have : filledL ps = ps := by unfold filledL; rw [if_neg]; rw [hp]; simpa using hx
    rw [this]; exact hs
end Mine
end
section
open PySem PySem.W PyProof.Rows PySem.Calls
namespace Mine
noncomputable def tabs : List (List (Nat × List Nat)) := [T0, T1, T2, T3, T4]
noncomputable def sets : List (List Nat) := [[38, 60, 62], [38, 60, 62, 34, 13, 10, 9], [38, 62, 34], [38, 60, 62, 13], [38, 60, 34, 13, 10, 9]]
noncomputable def alls : List Nat := [38, 60, 62, 34, 13, 10, 9]
noncomputable def figs (b : Bool) : List (List Nat) := if b then [[35, 49, 51], [35, 49, 48], [35, 48, 57]] else [[35, 120, 68], [35, 120, 65], [35, 120, 57]]
noncomputable def nms (b : Bool) : List (List Nat) := [[97, 109, 112], [108, 116], [103, 116], [113, 117, 111, 116]] ++ figs b
theorem sign_facts : ∀ h ∈ List.range 5, ∀ c ∈ sets.getD h [], Txt.find (S alls) (S [c]) = ((alls.idxOf c : Nat) : Int) ∧ alls.idxOf c < 7 ∧ spell (tabs.getD h []) c = 38 :: (nms (h == 1)).getD (alls.idxOf c) [] ++ [59] := by
  decide +kernel
theorem sign_off : ∀ h ∈ List.range 5, ∀ p ∈ tabs.getD h [], p.1 ∈ sets.getD h [] := by decide +kernel
theorem strs_cons {x y : Str} {t : Tok} {vs : List Value} {ys : List Str} (h : x = y) (r : StrsAre vs ys) : StrsAre (.str x t :: vs) (y :: ys) := by subst h; exact .cons _ _ r
theorem strs_get {vs : List Value} {ps : List (List Nat)} (h : StrsAre vs (ps.map S)) {i : Nat} (hi : i < ps.length) : ∃ t, vs[i]? = some (.str (S (ps.getD i [])) t) := by
  have hl : vs.length = ps.length := by rw [h.length, List.length_map]
  have e : vs[i]? = some vs[i] := List.getElem?_eq_getElem (by omega)
  obtain ⟨x, t, hx, _, hp⟩ := strs_at h e
  exact ⟨t, by rw [e, hx, List.getD_eq_getElem?_getD, hp]; rfl⟩
section
variable {prog : Program} {w : World} {A : Around} {E : Value → Shared → Prop} {s : Shared}
/-- xs[k] -/
theorem at_idx {value slice : Expr} {a : Addr} {vs : List Value} {v : Value} {k : Nat} {u : Tok} {Q : Value → Shared → Prop} (hl : s.heap.IsList a vs.toArray) (hv : vs[k]? = some v) (hk : k < 1000000) (h : Q v s)
    (hs : subscripted slice false (.ref a) (.int (k : Int) u) = operate [.ref a, .int (k : Int) u] (getItem (.ref a) (.int (k : Int) u)) := by with_unfolding_all rfl) :
    wpAny (model prog w) A (subscriptTail value slice (.ref a) (.int (k : Int) u)) Q E s :=
  tail_any hl.typeIs list_getitem_lookup (wpAny_getItem_list hl (by omega) (by omega) (by simpa using hv) h) hs
end

theorem sign_spec {prog : Program} {w : World} {A : Around} {s : Shared} {d hh c : Nat} {th tc : Tok} (G : Gd (K1 w) s.heap) (hA : Ok A d) (hh5 : hh < 5) :
    Qt prog w A (call (.ref 85) [.int (hh : Int) th, .str (S [c]) tc]) (fun v s' => ∃ t, v = .str (S (spell (tabs.getD hh []) c)) t) s := by
  refine fn_rule hA (G.K 85 _ (by rfl)) rfl G.lim (codeRec_of G.K (by kernel_rfl)) rfl (by rfl) rfl (by decide +kernel) (locs (by kernel_rfl)) ?_
  intro L s₁ F₁ ht
  have hr : hh ∈ List.range 5 := by simpa using hh5
  refine wpAny_execs_cons (wpAny_If (wpAny_isTrue_Compare1 (nmL F₁ (v := .str (S [c]) tc) (by rfl) (Subscript_ (List_ (args_cons (Constant_str (args_cons (Constant_str (args_cons (Constant_str (args_cons (Constant_str (args_cons (Constant_str (args_nil ?_))))))))))))))))
  have k₂ : Kp s₁ { s₁ with toks := s₁.toks + 1 + 1 + 1 + 1 + 1 } := Kp.tok (by omega)
  refine (q_newList (by rw [sizeLine_eq]; simp)).then fun v s₂ hv k₂' => ?_
  obtain ⟨a, rfl, ha0, hpl⟩ := hv
  have F₂ := F₁.k (k₂.trans k₂')
  have hst : StrsAre _ (sets.map S) := strs_cons (x := "&<>") (t := s₁.toks) (by decide +kernel) (strs_cons (x := "&<>\"\r\n\t") (t := s₁.toks + 1) (by decide +kernel) (strs_cons (x := "&>\"") (t := s₁.toks + 1 + 1) (by decide +kernel) (strs_cons (x := "&<>\r") (t := s₁.toks + 1 + 1 + 1) (by decide +kernel) (strs_cons (x := "&<\"\r\n\t") (t := s₁.toks + 1 + 1 + 1 + 1) (by decide +kernel) .nil))))
  obtain ⟨ti, hi⟩ := strs_get hst (i := hh) hh5
  refine nmL F₂ (v := .int (hh : Int) th) (by rfl) (at_idx hpl.isList hi (by omega) (SB.notContains (wpAny_truthy_bool ?_)))
  rw [contains_S]
  by_cases hc : c ∈ sets.getD hh []
  · simp only [hc, decide_true, Bool.not_true, Bool.false_eq_true, if_false]
    refine wpAny_execs_nil ?_
    obtain ⟨hfind, hidx, hsp⟩ := sign_facts hh hr c hc
    -- figures
    refine wpAny_execs_cons (wpAny_Assign_Name (Qt.then (V := fun v s' => ∃ af vs, v = .ref af ∧ s'.heap.PlainList af vs.toArray ∧ StrsAre vs ((figs (hh == 1)).map S)) ?_ ?_))
    · refine IfExp_ (wpAny_isTrue_Compare1 (nmL F₂ (v := .int (hh : Int) th) (by rfl) (wpAny_Constant_int (P.eq_int (wpAny_truthy_bool ?_)))))
      have hb : (((hh : Int) == 1) = (hh == 1)) := by
        rw [Bool.eq_iff_iff]; simp; omega
      rw [hb]
      have k₄ : Kp s₂ { s₂ with toks := s₂.toks + 1 + 1 + 1 + 1 } := Kp.tok (by omega)
      cases h1 : (hh == 1) with
      | true =>
        simp only [if_true]
        refine List_ (args_cons (Constant_str (args_cons (Constant_str (args_cons (Constant_str (args_nil ?_)))))))
        refine (q_newList (by rw [sizeLine_eq]; simp)).then fun v s₄ hv k₄' => ?_
        obtain ⟨af, rfl, _, hpf⟩ := hv
        exact ⟨⟨af, _, rfl, hpf, strs_cons (by decide +kernel) (strs_cons (by decide +kernel) (strs_cons (by decide +kernel) .nil))⟩, k₄.trans k₄'⟩
      | false =>
        simp only [Bool.false_eq_true, if_false]
        refine List_ (args_cons (Constant_str (args_cons (Constant_str (args_cons (Constant_str (args_nil ?_)))))))
        refine (q_newList (by rw [sizeLine_eq]; simp)).then fun v s₄ hv k₄' => ?_
        obtain ⟨af, rfl, _, hpf⟩ := hv
        exact ⟨⟨af, _, rfl, hpf, strs_cons (by decide +kernel) (strs_cons (by decide +kernel) (strs_cons (by decide +kernel) .nil))⟩, k₄.trans k₄'⟩
    · rintro v s₃ ⟨af, fvs, rfl, hpf, hfs⟩ k₃
      have F₃ := F₂.k k₃
      refine stL F₃ fun s₄ F₄ u₄ => ?_
      have hpf₄ := PL.up hpf F₃ u₄
      -- return
      refine wpAny_execs_cons ?_
      refine wpAny_Return_some ?_
      refine wpAny_BinOp ?_
      refine wpAny_BinOp ?_
      refine Constant_str ?_
      refine Subscript_ ?_
      refine wpAny_BinOp ?_
      refine List_ ?_
      refine args_cons (Constant_str (args_cons (Constant_str (args_cons (Constant_str (args_cons (Constant_str (args_nil ?_))))))))
      have k₅ : Kp s₄ { s₄ with toks := s₄.toks + 1 + 1 + 1 + 1 + 1 } := Kp.tok (by omega)
      refine (q_newList (by rw [sizeLine_eq]; simp)).then fun v s₅ hv k₅' => ?_
      obtain ⟨an, rfl, _, hpn⟩ := hv
      have k₅'' := k₅.trans k₅'
      have F₅ := F₄.k k₅''
      refine nmL F₅ (v := .ref af) (Upd.hit) ?_
      have hfl : fvs.length = 3 := by rw [hfs.length]; cases (hh == 1) <;> rfl
      refine (q_addL hpn.isList (PL.k hpf₄ k₅'').isList (by rw [hfl]; simp)).then fun v s₆ hv k₆ => ?_
      obtain ⟨ad, rfl, _, hpd⟩ := hv
      have F₆ := F₅.k k₆
      have hsn : StrsAre ([.str "amp" (s₄.toks + 1), .str "lt" (s₄.toks + 1 + 1), .str "gt" (s₄.toks + 1 + 1 + 1), .str "quot" (s₄.toks + 1 + 1 + 1 + 1)] ++ fvs) ((nms (hh == 1)).map S) := by
        unfold nms
        rw [List.map_append]
        exact StrsAre.append' (strs_cons (x := "amp") (t := s₄.toks + 1) (by decide +kernel) (strs_cons (x := "lt") (t := s₄.toks + 1 + 1) (by decide +kernel) (strs_cons (x := "gt") (t := s₄.toks + 1 + 1 + 1) (by decide +kernel) (strs_cons (x := "quot") (t := s₄.toks + 1 + 1 + 1 + 1) (by decide +kernel) .nil)))) hfs
      refine mc1 ?_
      refine Constant_str ?_
      refine onStr PySem.F.slot_str_index PySem.F.type_str_index ?_
      refine cw1 ?_
      refine nmL (F₆.k (Kp.tok (Nat.le_succ _))) (v := .str (S [c]) tc) (by rfl) ?_
      have k₇ : Kp s₆ { s₆ with toks := s₆.toks + 1 + 1 } := Kp.tok (by omega)
      refine index_or hA.1 ?_ ?_
      · intro hneg
        rw [show (Str.ofString "&<>\"\r\n\t") = S alls from by decide +kernel, hfind] at hneg
        omega
      · intro _ _
        rw [show (Str.ofString "&<>\"\r\n\t") = S alls from by decide +kernel, hfind]
        have hn7 : alls.idxOf c < (nms (hh == 1)).length := by
          have : (nms (hh == 1)).length = 7 := by cases (hh == 1) <;> rfl
          omega
        obtain ⟨tn, hn⟩ := strs_get hsn hn7
        refine at_idx (PL.k hpd k₇).isList hn (by omega) ?_
        have hnl : ((nms (hh == 1)).getD (alls.idxOf c) []).length ≤ 4 := by
          have : ∀ b : Bool, ∀ k ∈ List.range 7, ((nms b).getD k []).length ≤ 4 := by decide +kernel
          exact this _ _ (by simpa using hidx)
        refine Qt.then (q_add (x := [38]) (y := (nms (hh == 1)).getD (alls.idxOf c) []) (by show 1 + _ ≤ _; omega)) fun v s₈ hv k₈ => ?_
        obtain ⟨t8, rfl⟩ := hv
        refine Constant_str ?_
        refine Qt.then (q_add (y := [59]) (by rw [List.length_append]; show 1 + _ + 1 ≤ _; omega)) fun v s₉ hv k₉ => ?_
        obtain ⟨t9, rfl⟩ := hv
        refine ⟨⟨t9, ?_⟩, F₆.base.trans ((k₇.trans k₈).trans ((Kp.tok (Nat.le_succ _)).trans k₉))⟩
        rw [hsp]; rfl
  · have hoff : spell (tabs.getD hh []) c = [c] := by
      unfold spell
      cases hl : (tabs.getD hh []).lookup c with
      | none => rfl
      | some u => exact absurd (sign_off hh hr _ (memT hl)) hc
    simp only [hc, decide_false, Bool.not_false, if_true]
    refine wpAny_execs_cons (wpAny_Return_some (nmL F₂ (v := .str (S [c]) tc) (by rfl) ⟨⟨tc, by rw [hoff]⟩, F₂.base⟩))
end Mine
end
section
open PySem PySem.W PyProof.Rows PySem.Calls
namespace Mine
noncomputable def spellRow (hs : List Nat) (l : List Nat) : List Nat := hs.foldl (fun l h => l.flatMap (spell (tabs.getD h []))) l
theorem spell_len6 (h d : Nat) : (spell (tabs.getD h []) d).length ≤ 6 := by
  refine spell_len ?_ d
  match h with
  | 0 => decide +kernel
  | 1 => decide +kernel
  | 2 => decide +kernel
  | 3 => decide +kernel
  | 4 => decide +kernel
  | n + 5 => rfl
theorem spellRow_len : ∀ (hs l : List Nat), (spellRow hs l).length ≤ 6 ^ hs.length * l.length
  | [], l => by simp [spellRow]
  | h :: r, l => by
    have h1 := spellRow_len r (l.flatMap (spell (tabs.getD h [])))
    have h2 := flat_len (spell_len6 h) l
    show (spellRow r (l.flatMap (spell (tabs.getD h [])))).length ≤ _
    rw [List.length_cons, Nat.pow_succ, Nat.mul_assoc]
    exact Nat.le_trans h1 (Nat.mul_le_mul_left _ h2)
theorem strs_values : ∀ {vs : List Value} {ys : List Str}, StrsAre vs ys → ∃ l : List (Str × Tok), vs = strValues l ∧ l.map (·.1) = ys
  | _, _, .nil => ⟨[], rfl, rfl⟩
  | _, _, .cons y t h => by
    obtain ⟨l, rfl, rfl⟩ := strs_values h
    exact ⟨(y, t) :: l, rfl, rfl⟩
theorem flatten_len_sum : ∀ ps : List (List Nat), ((ps.map S).map (·.length)).sum = ps.flatten.length
  | [] => rfl
  | p :: r => by simp only [List.map_cons, List.sum_cons, List.flatten_cons, List.length_append, S_len, flatten_len_sum r]
section
variable {prog : Program} {w : World} {A : Around} {E : Value → Shared → Prop} {s : Shared}
theorem q_join {a : Addr} {vs : List Value} {ps : List (List Nat)} {t : Tok} (hl : s.heap.IsList a vs.toArray) (hs : StrsAre vs (ps.map S)) (hsz : ps.flatten.length ≤ 16777216) :
    Qt prog w A (call (.builtin "str.join") [.str (S []) t, .ref a]) (fun v _ => ∃ t', v = .str (S ps.flatten) t') s := by
  obtain ⟨l, rfl, hl2⟩ := strs_values hs
  refine Qt.mk (SC.join hl hl2 ?_ fun t' _ => ⟨⟨t', ?_⟩, keeps_tok⟩)
  · unfold JoinOk
    rw [StrLaws.joinTotal, flatten_len_sum]
    simp only [S_len, List.length_nil, Nat.mul_zero, Nat.add_zero]
    unfold Builtin.Str.tooLong
    rw [sizeLine_eq]
    simp only [Bool.not_eq_true', decide_eq_false_iff_not]; omega
  · show Value.str (Builtin.Str.glued (S []) (ps.map S)) t' = _
    rw [StrLaws.glued_eq_join, join_S, joinL_nil_sep]
end
theorem ints_at {vs : List Value} {ns : List Int} (h : IntsAre vs ns) {i : Nat} {v : Value} (hv : vs[i]? = some v) : ∃ n t, v = .int n t ∧ ns[i]? = some n := by
  induction h generalizing i with
  | nil => simp at hv
  | cons n t h ih =>
    cases i with
    | zero => simp at hv; exact ⟨n, t, hv.symm, by simp⟩
    | succ i => exact ih (i := i) (by simpa using hv)

section
variable {prog : Program} {w : World} {A : Around} {E : Value → Shared → Prop} {s : Shared} {env : Env} {n : Str} {v : Value}
theorem nmX {pos : Pos} {c : Addr} {Q : Value → Shared → Prop} (hv : s.heap.IsCell c (some v)) (h : Q v s) (hc : env.cells.lookup n = some c := by rfl)
    (hk : env.scope.kind = .function := by rfl) (hl : env.kindOf n = some .cell := by rfl) (hd : (n == ("__debug__" : Str)) = false := by decide) :
    wpAny (model prog w) A (eval (.Name n pos) env) Q E s := wpAny_Name (wpAny_loadName_cell hk hl hc hv h) hd
end
theorem strs_ptext {l : List Nat} {vs ys : List Value} (f : Nat → List Nat) (hl : vs.length = l.length) (hP : ∀ (j : Nat) v, vs[j]? = some v → SignAt (S l) j v) (hp : Paired (ToS (fun x => x.flatMap f)) vs ys) :
    StrsAre ys ((l.map f).map S) := by
  have h : StrsAre vs ((l.map fun c => [c]).map S) := by
    clear hp ys
    induction l generalizing vs with
    | nil => cases vs with
      | nil => exact .nil
      | cons v r => cases hl
    | cons c r ih =>
      cases vs with
      | nil => cases hl
      | cons v vs =>
        obtain ⟨c', u, hc, rfl⟩ := hP 0 v rfl
        have e : c' = c := by simpa using hc.symm
        subst e
        exact .cons _ _ (ih (by simpa using hl) fun j v hv => by
          obtain ⟨c'', u', h1, h2⟩ := hP (j + 1) v hv
          exact ⟨c'', u', by simpa using h1, h2⟩)
  have := paired_strs h hp
  have e : ((l.map fun c => [c]).map (fun x => x.flatMap f)) = l.map f := by
    rw [List.map_map]; exact List.map_congr_left fun c _ => by simp
  rw [e] at this
  exact this

noncomputable def SJ {s₀ sx : Shared} {L : Addr} {cs : List (Str × Addr)} {mx cmx : Str → Option Value} (_ : Fs s₀ L mx cs cmx sx) (l : List Nat) (s : Shared) : Prop :=
  ∃ m cm t, Fs s₀ L m cs cm s ∧ m "spelled" = some (.str (S l) t)

theorem spelled_spec {prog : Program} {w : World} {A : Around} {s : Shared} {d c : Nat} {hs : List Nat} {a : Addr} {vs : List Value} {tc : Tok} (G : Gd (K1 w) s.heap) (hA : Ok A (d + 1))
    (hl : s.heap.IsList a vs.toArray) (hi : IntsAre vs (hs.map Int.ofNat)) (h5 : ∀ h ∈ hs, h < 5) (h2 : hs.length ≤ 2) :
    Qt prog w A (call (.ref 90) [.ref a, .str (S [c]) tc]) (fun v s' => ∃ t, v = .str (S (spellRow hs [c])) t) s := by
  refine fn_ruleC hA (G.K 90 _ (by rfl)) rfl G.lim (codeRec_of G.K (by kernel_rfl)) rfl (by rfl) rfl (kindsX (by kernel_rfl)) ?_
  intro L s₁ F₁
  have hvl : vs.length = hs.length := by rw [hi.length, List.length_map]
  -- spelled = sign
  refine wpAny_execs_cons ?_
  refine wpAny_Assign_Name ?_
  refine nmL F₁ (v := .str (S [c]) tc) (by rfl) ?_
  refine stL F₁ fun s₂ F₂ u₂ => ?_
  have hl₂ := hl.at fun o e => F₂.base.keep _ _ e
  refine wpAny_execs_cons ?_
  refine st_for (n := vs.length) (P := fun i v => vs[i]? = some v) (Y := [a]) hA.1 F₂.X (fun i s' => SJ F₂ (spellRow (hs.take i) [c]) s') ?_ ?_ ?_ ?_ ?_ ?_
  · exact nmL F₂ (v := .ref a) (by rfl) ⟨src_list hl₂, Kp.rfl'⟩
  · intro b hb
    refine ⟨?_, F₂.has hb⟩
    intro hm
    rw [List.mem_singleton.mp hm] at hb
    obtain ⟨o, ho, _⟩ := hl
    exact F₂.off₀ ho hb
  · intro s₃ k₃
    exact ⟨_, _, _, F₂.k k₃, Upd.hit⟩
  · rintro I i sa sb hI ⟨m, cm, t, F, e⟩ hIt u
    refine ⟨m, cm, t, F.it hIt ?_ u, e⟩
    cases e : s.heap.get? I with
    | none => rfl
    | some o => have := F₂.base.keep _ _ e; rw [hI] at this; cases this
  · rintro i v sa hin hv ⟨m, cm, t, F, e⟩
    obtain ⟨n, tn, rfl, hn⟩ := ints_at hi hv
    obtain ⟨h, hh, rfl⟩ : ∃ h, hs[i]? = some h ∧ n = Int.ofNat h := by
      rw [List.getElem?_map] at hn
      cases hq : hs[i]? with
      | none => rw [hq] at hn; cases hn
      | some h => rw [hq] at hn; cases hn; exact ⟨h, rfl, rfl⟩
    have h5' := h5 h (List.mem_of_getElem? hh)
    have hst : spellRow (hs.take (i + 1)) [c] = (spellRow (hs.take i) [c]).flatMap (spell (tabs.getD h [])) := by
      unfold spellRow
      rw [List.take_add_one, hh, List.foldl_append]; rfl
    rw [hst]
    have hlen : (spellRow (hs.take i) [c]).length ≤ 36 := by
      have h1 := spellRow_len (hs.take i) [c]
      have h3 : (hs.take i).length ≤ 2 := by rw [List.length_take]; omega
      have h4 : 6 ^ (hs.take i).length ≤ 6 ^ 2 := Nat.pow_le_pow_right (by omega) h3
      rw [List.length_singleton, Nat.mul_one] at h1
      exact Nat.le_trans h1 h4
    generalize spellRow (hs.take i) [c] = l at e hlen
    refine wpAny_assign_Name ?_
    refine stC F (by rfl) fun sb Fb ub => ?_
    refine wpAny_execs_cons ?_
    refine wpAny_Assign_Name ?_
    refine mc1 ?_
    refine Constant_str ?_
    refine onStr PySem.F.slot_str_join PySem.F.type_str_join ?_
    refine cw1 ?_
    have kb : Kp sb { sb with toks := sb.toks + 1 } := Kp.tok (Nat.le_succ _)
    have Fb' := Fb.k kb
    refine c_comp (n := (S l).cps.size) (P := SignAt (S l)) (Y := []) (fun _ => true) (ToS (fun x => x.flatMap (spell (tabs.getD h [])))) hA.1 (by rw [sizeLine_eq]; simp; omega) ?_ ?_ ?_ ?_
    · exact nmL Fb' e ⟨src_str, Kp.rfl'⟩
    · intro C j v s₃ m₃ hP hns hm hk
      exact q_notest (v := v) rfl
    · intro C j v s₃ m₃ hP _ hns hm hk
      obtain ⟨c', u', _, rfl⟩ := hP
      have G₃ : Gd (K1 w) s₃.heap := G.h fun b o e => hk.1 b o (Fb'.base.keep b o e)
      refine Call_ ?_
      refine nmK (v := .ref 85) G₃ (by kernel_rfl) ?_
      refine gcall (G₃.K 85 _ (by rfl)) rfl ?_
      refine args_cons ?_
      have hcell : sb.heap.IsCell (L + 1) (some (.int (Int.ofNat h) tn)) := by
        have := Fb.inC.cell "hand" (L + 1) (by rfl)
        rw [Upd.hit] at this; exact this
      refine nmX (v := .int (Int.ofNat h) tn) (hcell.keeps fun b o e => hk.1 b o (kb.keep b o e)) ?_
      refine args_cons ?_
      refine nmN hns hm ?_
      refine args_nil ⟨Kp.rfl', ?_⟩
      refine (sign_spec G₃ hA.deeper h5').mono ?_
      rintro v s' ⟨t', rfl⟩ _ x t'' e
      cases e
      exact ⟨t', by simp⟩
    · rintro al sc hal kc ⟨vs', ys, hpl, hvl', hvP, hpair⟩
      rw [filter_all] at hpair
      have hys := strs_ptext (l := l) (spell (tabs.getD h [])) (by simpa using hvl') hvP hpair
      have hfl : (l.map (spell (tabs.getD h []))).flatten = l.flatMap (spell (tabs.getD h [])) := by rw [List.flatMap_def]
      have hlen2 := flat_len (spell_len6 h) l
      refine Qt.then (q_join hpl.isList hys (by rw [hfl]; omega)) ?_
      rintro v sd ⟨t', rfl⟩ kd
      rw [hfl]
      have kk := (kb.trans kc).trans kd
      refine stL (Fb.k kk) fun se Fe ue => ?_
      refine wpAny_execs_nil ?_
      exact ⟨⟨_, _, _, Fe, Upd.hit⟩, (ub.trans (Up.of kk)).trans ue⟩
  · rintro sa ⟨m, cm, t, F, e⟩
    rw [hvl, List.take_length] at e
    refine wpAny_execs_cons ?_
    refine wpAny_Return_some ?_
    exact nmL F e ⟨⟨t, rfl⟩, F.base⟩
end Mine
end
section
open PySem PySem.W PyProof.Rows PySem.Calls
namespace Mine
/-- gives the text x -/
noncomputable def Qs (prog : Program) (w : World) (A : Around) (env : Env) (e : Expr) (x : List Nat) (s : Shared) : Prop := Qt prog w A (eval e env) (fun v _ => ∃ t, v = .str (S x) t) s
section
variable {prog : Program} {w : World} {A : Around} {E : Value → Shared → Prop} {s₀ s : Shared} {m cm : Str → Option Value} {env : Env} {n : Str}
theorem Qs.name {x : List Nat} {t : Tok} {pos : Pos} (F : Fs s₀ env.locals m env.cells cm s) (hv : m n = some (.str (S x) t))
    (hk : env.scope.kind = .function := by rfl) (hl : env.kindOf n = some .local := by rfl) (hd : (n == ("__debug__" : Str)) = false := by decide) : Qs prog w A env (.Name n pos) x s :=
  nmL F hv ⟨⟨t, rfl⟩, Kp.rfl'⟩ hk hl hd
theorem Qs.nameN {x : List Nat} {t : Tok} {pos : Pos} (hns : s.heap.Ns env.locals m) (hv : m n = some (.str (S x) t))
    (hk : env.scope.kind = .function := by rfl) (hl : env.kindOf n = some .local := by rfl) (hd : (n == ("__debug__" : Str)) = false := by decide) : Qs prog w A env (.Name n pos) x s :=
  nmN hns hv ⟨⟨t, rfl⟩, Kp.rfl'⟩ hk hl hd
theorem Qs.const {x : List Nat} {y : Str} {k : Nat} {pos : Pos} (h : y = S x := by decide +kernel) : Qs prog w A env (.Constant (.str y) k pos) x s := by
  subst h
  exact Constant_str ⟨⟨_, rfl⟩, Kp.tok (Nat.le_succ _)⟩
theorem Qs.add {l r : Expr} {x y : List Nat} {pos : Pos} (hl : Qs prog w A env l x s) (hr : ∀ s₁, Kp s s₁ → Qs prog w A env r y s₁) (h : x.length + y.length ≤ 16777216) : Qs prog w A env (.BinOp l .Add r pos) (x ++ y) s := by
  refine wpAny_BinOp (hl.then ?_)
  rintro v s₁ ⟨t, rfl⟩ k₁
  refine (hr s₁ k₁).then ?_
  rintro v s₂ ⟨u, rfl⟩ k₂
  exact (q_add h).from (k₁.trans k₂)
theorem Qs.repl {o : Expr} {x r : List Nat} {y z : Str} {k1 k2 : Nat} {p1 p2 apos pos : Pos} (ho : Qs prog w A env o x s) (htk : 1 ≤ s.toks) (hx : x.length ≤ 1048576) (hr : Txt.replace (S x) y z = S r)
    (hyz : (y == z) = false := by decide +kernel) (hz : z.length ≤ 14 := by decide +kernel)
    (hbase : attributeBase o "replace" env (eval o env) = eval o env := by rfl) (hline : (apos.endLine == pos.line) = true := by rfl) :
    Qs prog w A env (.Call (.Attribute o "replace" apos) [.Constant (.str y) k1 p1, .Constant (.str z) k2 p2] [] pos) r s := by
  refine mc2 (ho.then ?_) hbase rfl hline
  rintro v s₁ ⟨t, rfl⟩ k₁
  have ht : 1 ≤ s₁.toks := Nat.le_trans htk k₁.2.2
  refine onStr PySem.F.slot_str_replace PySem.F.type_str_replace (cw2 (Constant_str (Constant_str ?_)))
  refine (q_replace (Nat.pos_iff_ne_zero.mp ht) (Nat.succ_ne_zero _) (Nat.ne_of_lt (Nat.lt_succ_self _)) hyz (by rw [S_len]; exact hx) hz).then ?_
  rintro v s₂ ⟨t', rfl⟩ k₂
  exact ⟨⟨t', by rw [hr]⟩, k₁.trans ((Kp.tok (by show s₁.toks ≤ s₁.toks + 1 + 1; omega)).trans k₂)⟩
theorem Qs.repl2 (a b c : Nat) {o : Expr} {x : List Nat} {y z : Str} {k1 k2 : Nat} {p1 p2 apos pos : Pos} (ho : Qs prog w A env o x s) (htk : 1 ≤ s.toks) (hx : x.length ≤ 1048576)
    (hy : y = S [a, b] := by decide +kernel) (hz : z = S [c] := by decide +kernel)
    (hbase : attributeBase o "replace" env (eval o env) = eval o env := by rfl) (hline : (apos.endLine == pos.line) = true := by rfl) :
    Qs prog w A env (.Call (.Attribute o "replace" apos) [.Constant (.str y) k1 p1, .Constant (.str z) k2 p2] [] pos) (rep2 a b c x) s := by
  subst hy hz
  refine Qs.repl ho htk hx (replace2_S x a b c) ?_ (by rw [S_len]; simp) hbase hline
  cases h : (S [a, b] == S [c]) with
  | false => rfl
  | true => have := S_inj (eq_of_beq h); cases this
theorem Qs.repl1 (c : Nat) (r : List Nat) {o : Expr} {x : List Nat} {y z : Str} {k1 k2 : Nat} {p1 p2 apos pos : Pos} (ho : Qs prog w A env o x s) (htk : 1 ≤ s.toks) (hx : x.length ≤ 1048576)
    (hy : y = S [c] := by decide +kernel) (hz : z = S r := by decide +kernel) (hcr : ([c] == r) = false := by decide +kernel) (hrl : r.length ≤ 14 := by decide +kernel)
    (hbase : attributeBase o "replace" env (eval o env) = eval o env := by rfl) (hline : (apos.endLine == pos.line) = true := by rfl) :
    Qs prog w A env (.Call (.Attribute o "replace" apos) [.Constant (.str y) k1 p1, .Constant (.str z) k2 p2] [] pos) (x.flatMap fun d => if d = c then r else [d]) s := by
  subst hy hz
  refine Qs.repl ho htk hx (replace_S x c r) ?_ (by rw [S_len]; exact hrl) hbase hline
  cases h : (S [c] == S r) with
  | false => rfl
  | true => have := S_inj (eq_of_beq h); rw [this] at hcr; simp at hcr
/-- n = e -/
theorem st_text {e : Expr} {x : List Nat} {p1 p2 : Pos} {Q : Flow → Shared → Prop} (F : Fs s₀ env.locals m env.cells cm s) (he : Qs prog w A env e x s)
    (h : ∀ s' t', Fs s₀ env.locals (Upd m n (.str (S x) t')) env.cells cm s' → Up (Mx env.locals env.cells) s s' → Q .next s')
    (hs : swapsWith e (some (.Name n p1)) p2.line env = pure false := by rfl) (hk : env.scope.kind = .function := by rfl) (hl : env.kindOf n = some .local := by rfl) :
    wpAny (model prog w) A (exec (.Assign [.Name n p1] e p2) env) Q E s := by
  refine wpAny_Assign_Name (he.then ?_) hs
  rintro v s₁ ⟨t', rfl⟩ k₁
  exact stL (F.k k₁) (fun s₂ F₂ u₂ => h s₂ t' F₂ ((Up.of k₁).trans u₂)) hk hl
/-- n += e -/
theorem st_iaddE {e : Expr} {x y : List Nat} {t : Tok} {p1 p2 : Pos} {Q : Flow → Shared → Prop} (F : Fs s₀ env.locals m env.cells cm s) (hn : m n = some (.str (S x) t)) (he : Qs prog w A env e y s) (hsz : x.length + y.length ≤ 16777216)
    (h : ∀ s' t', Fs s₀ env.locals (Upd m n (.str (S (x ++ y)) t')) env.cells cm s' → Up (Mx env.locals env.cells) s s' → Q .next s')
    (hk : env.scope.kind = .function := by rfl) (hl : env.kindOf n = some .local := by rfl) :
    wpAny (model prog w) A (exec (.AugAssign (.Name n p1) .Add e p2) env) Q E s := by
  refine wpAny_AugAssign_Name (ldLC F.inC hk hl hn (he.then ?_))
  rintro v s₁ ⟨t', rfl⟩ k₁
  refine (q_iadd hsz).then ?_
  rintro v s₂ ⟨t'', rfl⟩ k₂
  exact stL (F.k (k₁.trans k₂)) (fun s₃ F₃ u₃ => h s₃ t'' F₃ ((Up.of (k₁.trans k₂)).trans u₃)) hk hl
/-- x[-1:] -/
theorem Qs.last {o : Expr} {x : List Nat} {k : Nat} {p1 p2 p3 pos : Pos} (ho : Qs prog w A env o x s) (hx : x.length ≤ 16777216)
    (hs : ∀ (t : Tok) (i : Value), subscripted (.Slice (some (.UnaryOp .USub (.Constant (.int 1) k p1) p2)) none none p3) false (.str (S x) t) i = operate [i, .str (S x) t] (getItem (.str (S x) t) i) := by intro _ _; with_unfolding_all rfl)
    (ht : ∀ (t : Tok) r, letTemporaryGo o (.str (S x) t) r = pure () := by intro _ _; with_unfolding_all rfl) :
    Qs prog w A env (.Subscript o (.Slice (some (.UnaryOp .USub (.Constant (.int 1) k p1) p2)) none none p3) pos) (x.drop (x.length - 1)) s := by
  refine Subscript_ (ho.then ?_)
  rintro v s₁ ⟨t, rfl⟩ k₁
  refine wpAny_Slice (evalPart_some_step (UnaryOp_ (wpAny_Constant_int (P.neg_int (evalPart_none_step (evalPart_none_step ?_))))))
  refine wpAny_with_toks (n := s₁.toks) (by show s₁.toks ≤ s₁.toks + 1 + 1; omega) ?_
  refine tail_of_ItemOn ?_ (hs t _) (ht t)
  refine SBH.sliceItem_sn (s := { s₁ with toks := s₁.toks + 1 + 1 }) (P := fun h' => ∀ b o, s₁.heap.get? b = some o → h'.get? b = some o) (fun h' ob hk b o e => Heap.get?_push_of_some _ (hk b o e)) (fun _ _ e => e) ?_ (by rw [S_len, sizeLine_eq]; exact hx)
  intro h' t' k' hk htk
  exact ⟨⟨t', by rw [slice_last]⟩, k₁.trans (Kp.heap htk hk)⟩
/-- x[:-1] -/
theorem Qs.init {o : Expr} {x : List Nat} {k : Nat} {p1 p2 p3 pos : Pos} (ho : Qs prog w A env o x s) (hx : x.length ≤ 16777216)
    (hs : ∀ (t : Tok) (i : Value), subscripted (.Slice none (some (.UnaryOp .USub (.Constant (.int 1) k p1) p2)) none p3) false (.str (S x) t) i = operate [i, .str (S x) t] (getItem (.str (S x) t) i) := by intro _ _; with_unfolding_all rfl)
    (ht : ∀ (t : Tok) r, letTemporaryGo o (.str (S x) t) r = pure () := by intro _ _; with_unfolding_all rfl) :
    Qs prog w A env (.Subscript o (.Slice none (some (.UnaryOp .USub (.Constant (.int 1) k p1) p2)) none p3) pos) x.dropLast s := by
  refine Subscript_ (ho.then ?_)
  rintro v s₁ ⟨t, rfl⟩ k₁
  refine wpAny_Slice (evalPart_none_step (evalPart_some_step (UnaryOp_ (wpAny_Constant_int (P.neg_int (evalPart_none_step ?_))))))
  refine wpAny_with_toks (n := s₁.toks) (by show s₁.toks ≤ s₁.toks + 1 + 1; omega) ?_
  refine tail_of_ItemOn ?_ (hs t _) (ht t)
  refine SBH.sliceItem_ns (s := { s₁ with toks := s₁.toks + 1 + 1 }) (P := fun h' => ∀ b o, s₁.heap.get? b = some o → h'.get? b = some o) (fun h' ob hk b o e => Heap.get?_push_of_some _ (hk b o e)) (fun _ _ e => e) ?_ (by rw [S_len, sizeLine_eq]; exact hx)
  intro h' t' k' hk htk
  exact ⟨⟨t', by rw [slice_init]⟩, k₁.trans (Kp.heap htk hk)⟩
/-- a, b = x.split('c', 1) -/
theorem q_cut {o : Expr} {a b : List Nat} {c : Nat} {y : Str} {k1 k2 : Nat} {p1 p2 apos pos : Pos} (ho : Qs prog w A env o (a ++ c :: b) s) (hc : c ∉ a) (hx : (a ++ c :: b).length + 2 ≤ 16777216) (hy : y = S [c] := by decide +kernel)
    (hbase : attributeBase o "split" env (eval o env) = eval o env := by rfl) (hline : (apos.endLine == pos.line) = true := by rfl) :
    Qt prog w A (eval (.Call (.Attribute o "split" apos) [.Constant (.str y) k1 p1, .Constant (.int 1) k2 p2] [] pos) env) (fun v s' => ∃ d t1 t2, v = .ref d ∧ s'.heap.IsList d [.str (S a) t1, .str (S b) t2].toArray) s := by
  subst hy
  refine mc2 (ho.then ?_) hbase rfl hline
  rintro v s₁ ⟨t, rfl⟩ k₁
  refine onStr PySem.F.slot_str_split PySem.F.type_str_split (cw2 (Constant_str (wpAny_Constant_int ?_)))
  exact (q_split1 hc hx).from (k₁.trans (Kp.tok (by show s₁.toks ≤ s₁.toks + 1 + 1; omega)))
/-- x.split('c') -/
theorem q_parts {o : Expr} {x : List Nat} {c : Nat} {y : Str} {k1 : Nat} {p1 apos pos : Pos} (ho : Qs prog w A env o x s) (hx : x.length + 2 ≤ 16777216) (hy : y = S [c] := by decide +kernel)
    (hbase : attributeBase o "split" env (eval o env) = eval o env := by rfl) (hs : starEach [.Constant (.str y) k1 p1] env = [(false, eval (.Constant (.str y) k1 p1) env)] := by rfl) (hline : (apos.endLine == pos.line) = true := by rfl) :
    Qt prog w A (eval (.Call (.Attribute o "split" apos) [.Constant (.str y) k1 p1] [] pos) env) (fun v s' => ∃ a vs, v = .ref a ∧ s'.heap.IsList a vs.toArray ∧ StrsAre vs ((splitL c x).map S)) s := by
  subst hy
  refine mc1 (ho.then ?_) hbase hs hline
  rintro v s₁ ⟨t, rfl⟩ k₁
  refine onStr PySem.F.slot_str_split PySem.F.type_str_split (cw1 (Constant_str ?_))
  exact (q_split hx).from (k₁.trans (Kp.tok (by show s₁.toks ≤ s₁.toks + 1; omega)))
end

theorem mem_first {c : Nat} : ∀ {l : List Nat}, c ∈ l → ∃ a b, l = a ++ c :: b ∧ c ∉ a
  | d :: r, h => by
    by_cases hd : d = c
    · subst hd; exact ⟨[], r, rfl, by simp⟩
    · have hr : c ∈ r := by rcases List.mem_cons.mp h with e | e; exact absurd e.symm hd; exact e
      obtain ⟨a, b, e, hc⟩ := mem_first hr
      exact ⟨d :: a, b, by rw [e]; rfl, by simp [hc]; exact fun e => hd e.symm⟩
theorem AInv.step' {l dn ah bh : List Nat} (I : AInv l dn (ah ++ 34 :: bh)) (ha : 34 ∉ ah) (l1 : 1 ∉ l) (l2 : 2 ∉ l) :
    ∃ inner left, mkm bh ++ [34] = inner ++ 34 :: left ∧ 34 ∉ inner ∧ AInv l (dn ++ (ah ++ [34] ++ inn inner ++ left.drop (left.length - 1))) (um left.dropLast) ∧ (um left.dropLast).length < (ah ++ 34 :: bh).length := by
  rcases I.step ha l1 l2 with ⟨inner, left, e1, e2, e3, e4⟩ | ⟨e1, e2⟩
  · refine ⟨inner, left ++ [34], by rw [e1]; simp, e2, ?_, ?_⟩
    · simpa using e3
    · simp; omega
  · refine ⟨mkm bh, [], rfl, e1, ?_, ?_⟩
    · exact e2
    · simp [um]; omega
theorem rep2_len (a b z : Nat) : ∀ l : List Nat, (rep2 a b z l).length ≤ l.length
  | [] => by simp [rep2]
  | [x] => by simp [rep2]
  | x :: y :: r => by
    have h1 := rep2_len a b z r
    have h2 := rep2_len a b z (y :: r)
    rw [rep2_eq]
    split
    · simp; omega
    · simp at h2 ⊢; omega
theorem splitL_len (c : Nat) : ∀ l : List Nat, (splitL c l).length ≤ l.length + 1 ∧ ∀ p ∈ splitL c l, p.length ≤ l.length
  | [] => by simp [splitL]
  | d :: r => by
    have ih := splitL_len c r
    unfold splitL
    split
    · refine ⟨by simp; omega, fun p hp => ?_⟩
      rcases List.mem_cons.mp hp with rfl | hp
      · simp
      · have := ih.2 p hp; simp; omega
    · split
      · rename_i hq; exact absurd hq (splitL_ne c r)
      · rename_i p q hq
        rw [hq] at ih
        refine ⟨by have := ih.1; simp at this ⊢; omega, fun p' hp => ?_⟩
        rcases List.mem_cons.mp hp with rfl | hp
        · have := ih.2 p (by simp); simp; omega
        · have := ih.2 p' (by simp [hp]); simp; omega
theorem filledL_mem {ps : List (List Nat)} {p : List Nat} (h : p ∈ filledL ps) : p ∈ ps := by
  unfold filledL at h
  split at h
  · exact List.dropLast_subset _ h
  · exact h
theorem filledL_len (ps : List (List Nat)) : (filledL ps).length ≤ ps.length := by
  unfold filledL
  split
  · simp
  · exact Nat.le_refl _
theorem un_marks (p : List Nat) : ((p.flatMap fun d => if d = 1 then [34] else [d]).flatMap fun d => if d = 2 then [92] else [d]).flatMap (fun d => if d = 3 then [44] else [d]) = (p.map d12).map d3 := by
  induction p with
  | nil => rfl
  | cons c r ih =>
    rw [List.flatMap_cons, List.flatMap_append, List.flatMap_append, ih, List.map_cons, List.map_cons]
    by_cases h1 : c = 1
    · subst h1; rfl
    · by_cases h2 : c = 2
      · subst h2; rfl
      · by_cases h3 : c = 3
        · subst h3; rfl
        · simp [h1, h2, h3, d12, d3]
noncomputable def AJ {s₀ sx : Shared} {L : Addr} {cs : List (Str × Addr)} {mx cm : Str → Option Value} (_ : Fs s₀ L mx cs cm sx) (l : List Nat) (n : Nat) (s : Shared) : Prop :=
  ∃ m dn rest t1 t2, Fs s₀ L m cs cm s ∧ m "done" = some (.str (S dn) t1) ∧ m "rest" = some (.str (S rest) t2) ∧ AInv l dn rest ∧ n = rest.length ∧ 1 ≤ s.toks

theorem aware_spec {prog : Program} {w : World} {A : Around} {s : Shared} {d : Nat} {l : List Nat} {tl : Tok} (G : Gd (K1 w) s.heap) (hA : Ok A (d + 1)) (hl : l.length ≤ 1000) (l1 : 1 ∉ l) (l2 : 2 ∉ l) (l3 : 3 ∉ l) :
    Qt prog w A (call (.ref 78) [.str (S l) tl]) (fun v s' => ∃ a vs, v = .ref a ∧ s'.heap.IsList a vs.toArray ∧ StrsAre vs ((parseR l).map S)) s := by
  refine fn_rule hA (G.K 78 _ (by rfl)) rfl G.lim (codeRec_of G.K (by kernel_rfl)) rfl (by rfl) rfl (by decide +kernel) (locs (by kernel_rfl)) ?_
  intro L s₁ F₁ ht
  have htk : 1 ≤ s₁.toks := Nat.le_trans (Nat.le_add_left 1 _) ht
  -- done, rest = ('', header)
  refine wpAny_execs_cons ?_
  refine asg2s F₁ ?_
  refine Tuple_ ?_
  refine args_cons ?_
  refine Constant_str ?_
  refine args_cons ?_
  refine nmL (F₁.k (Kp.tok (Nat.le_succ _))) (v := .str (S l) tl) (by rfl) ?_
  refine args_nil ?_
  refine Qt.then (q_newTuple (by rw [sizeLine_eq]; simp)) ?_
  rintro v s₂ ⟨a, rfl, _, hT⟩ k₂
  have k₂' : Kp s₁ s₂ := (Kp.tok (Nat.le_succ _)).trans k₂
  refine ⟨_, _, k₂', q_unpack2T hA.1 hT, fun s₃ F₃ u₃ => ?_⟩
  have htk₃ : 1 ≤ s₃.toks := Nat.le_trans htk u₃.2.2
  -- while
  refine wpAny_execs_cons ?_
  refine st_while (AJ F₃ l) l.length ?_ ?_
  · exact ⟨_, [], l, _, _, F₃, Upd.hit, Upd.miss (by decide) Upd.hit, AInv.start l, rfl, htk₃⟩
  · rintro n sa ⟨m, dn, rest, t1, t2, F, a1, a2, I, rfl, hta⟩
    have hlen := I.len
    refine wpAny_isTrue_Compare1 ?_
    refine Constant_str ?_
    have ka : Kp sa { sa with toks := sa.toks + 1 } := Kp.tok (Nat.le_succ _)
    refine nmL (F.k ka) a2 ?_
    refine SB.contains (wpAny_truthy_bool ?_)
    rw [show (Str.ofString "\"") = S [34] from by decide +kernel, contains_S]
    by_cases hq : 34 ∈ rest
    · simp only [hq, decide_true, if_true]
      obtain ⟨ah, bh, rfl, hah⟩ := mem_first hq
      obtain ⟨inner, left, e1, e2, I', hlt⟩ := I.step' hah l1 l2
      have hl' := I'.len
      have hmk := mkm_len bh.length bh (Nat.le_refl _)
      have hlens : ah.length + bh.length + 1 ≤ l.length := by have := hlen.1; simp at this; omega
      have hme := congrArg List.length e1
      simp only [List.length_append, List.length_cons, List.length_nil] at hme
      -- ahead, behind = rest.split('"', 1)
      refine wpAny_execs_cons ?_
      refine Assign_Tuple ?_
      refine Qt.then (q_cut (Qs.name (F.k ka) a2) hah (by simp; omega)) ?_
      rintro v sb ⟨db, tb1, tb2, rfl, hb⟩ kb
      have kb' := ka.trans kb
      refine asg2 (F.k kb') (q_unpack2L hA.1 hb) fun sc Fc uc => ?_
      have htc : 1 ≤ sc.toks := Nat.le_trans hta (Nat.le_trans kb'.2.2 uc.2.2)
      -- marked
      refine wpAny_execs_cons ?_
      refine st_text (x := mkm bh ++ [34]) Fc ?_ fun sd td Fd ud => ?_
      · have hmm := mkm_rep bh.length bh (Nat.le_refl _)
        rw [← hmm]
        refine Qs.add (Qs.repl2 92 34 1 (Qs.repl2 92 92 2 (Qs.name Fc Upd.hit) htc (by omega)) htc ?_) (fun s k => Qs.const) ?_
        · exact Nat.le_trans (rep2_len 92 92 2 bh) (by omega)
        · rw [hmm]; simp; omega
      have htd : 1 ≤ sd.toks := Nat.le_trans htc ud.2.2
      -- inner, left = marked.split('"', 1)
      refine wpAny_execs_cons ?_
      refine Assign_Tuple ?_
      refine Qt.then (q_cut (a := inner) (b := left) (c := 34) ?_ e2 (by simp; omega)) ?_
      · rw [← e1]; exact Qs.name Fd Upd.hit
      rintro v se ⟨de, te1, te2, rfl, he⟩ ke
      refine asg2 (Fd.k ke) (q_unpack2L hA.1 he) fun sf Ff uf => ?_
      have htf : 1 ≤ sf.toks := Nat.le_trans htd (Nat.le_trans ke.2.2 uf.2.2)
      -- done += ..
      refine wpAny_execs_cons ?_
      have hin : (inner.flatMap fun d => if d = 92 then [] else [d]).length ≤ 1 * inner.length := flat_len (fun d => by split <;> simp) inner
      have hin2 : (inn inner).length ≤ 1 * (inner.flatMap fun d => if d = 92 then [] else [d]).length := flat_len (fun d => by split <;> simp) _
      refine st_iaddE (y := ah ++ [34] ++ inn inner ++ left.drop (left.length - 1)) Ff (Upd.miss (by decide) (Upd.miss (by decide) (Upd.miss (by decide) (Upd.miss (by decide) (Upd.miss (by decide) a1))))) ?_ ?_ fun sg tg Fg ug => ?_
      · refine Qs.add (Qs.add (Qs.add (Qs.name Ff (Upd.miss (by decide) (Upd.miss (by decide) (Upd.miss (by decide) (Upd.miss (by decide) Upd.hit))))) (fun s k => Qs.const) (by simp; omega)) (fun s k => ?_) (by simp; omega)) (fun s k => ?_) (by simp; omega)
        · have hts := Nat.le_trans htf k.2.2
          exact Qs.repl1 44 [3] (Qs.repl1 92 [] (Qs.name (Ff.k k) (Upd.miss (by decide) Upd.hit)) hts (by omega)) hts (by omega)
        · exact Qs.last (Qs.name (Ff.k k) Upd.hit) (by omega)
      · simp; omega
      have htg : 1 ≤ sg.toks := Nat.le_trans htf ug.2.2
      -- rest = ..
      refine wpAny_execs_cons ?_
      have hum : (left.dropLast.flatMap fun d => if d = 1 then [92, 34] else [d]).length ≤ 2 * left.dropLast.length := flat_len (fun d => by split <;> simp) _
      have hdl : left.dropLast.length ≤ left.length := by simp
      refine st_text (x := um left.dropLast) Fg ?_ fun sh th Fh uh => ?_
      · exact Qs.repl1 2 [92, 92] (Qs.repl1 1 [92, 34] (Qs.init (Qs.name Fg (Upd.miss (by decide) Upd.hit)) (by omega)) htg (by omega)) htg (by omega)
      refine wpAny_execs_nil ?_
      exact ⟨_, hlt, _, _, _, _, _, Fh, Upd.miss (by decide) Upd.hit, Upd.hit, I', rfl, Nat.le_trans htg uh.2.2⟩
    · simp only [hq, decide_false, Bool.false_eq_true, if_false]
      have Fa := F.k ka
      have hfin := I.fin hq l1 l2 l3
      -- parts = _law_filled((done + rest).split(','))
      refine wpAny_execs_cons ?_
      refine wpAny_Assign_Name ?_
      refine Call_ ?_
      have G₄ : Gd (K1 w) sa.heap := G.h fun b o e => F.base.keep b o e
      refine nmK (v := .ref 73) (G₄.k ka) (by kernel_rfl) ?_
      refine gcall ((G₄.k ka).K 73 _ (by rfl)) rfl ?_
      refine args_cons ?_
      refine Qt.then (q_parts (x := dn ++ rest) (c := 44) (Qs.add (Qs.name Fa a1) (fun s k => Qs.name (Fa.k k) a2) (by have := hlen.1; omega)) (by have := hlen.1; simp; omega)) ?_
      rintro v sb ⟨ab, vb, rfl, hlb, hsb⟩ kb
      refine args_nil ⟨kb, ?_⟩
      have kb' := ka.trans kb
      have hsl := splitL_len 44 (dn ++ rest)
      have hdr : (dn ++ rest).length ≤ 1000 := by have := hlen.1; simp; omega
      refine Qt.then (filled_spec (G₄.k kb') hA.deeper hlb hsb (splitL_ne _ _) (by omega)) ?_
      rintro v sc ⟨ac, vc, rfl, hlc, hsc⟩ kc
      have kc' := kb'.trans kc
      refine stL (F.k kc') fun sd Fd ud => ?_
      have hld : sd.heap.IsList ac vc.toArray := by
        obtain ⟨a', e, hl'⟩ := IsL.up (v := .ref ac) ⟨ac, rfl, hlc⟩ (F.k kc') ud
        cases e; exact hl'
      have htd : 1 ≤ sd.toks := Nat.le_trans hta (Nat.le_trans kc'.2.2 ud.2.2)
      have hvl : vc.length = (filledL (splitL 44 (dn ++ rest))).length := by rw [hsc.length, List.length_map]
      have hfl := filledL_len (splitL 44 (dn ++ rest))
      -- return [..]
      refine wpAny_execs_cons ?_
      refine wpAny_Return_some ?_
      refine c_comp (n := vc.length) (P := fun i v => vc[i]? = some v) (Y := [ac]) (cl := []) (fun _ => true) (ToS (fun p => (p.map d12).map d3)) hA.1 (by rw [sizeLine_eq]; omega) (nmL Fd (v := .ref ac) Upd.hit ⟨src_list hld, Kp.rfl'⟩) ?_ ?_ ?_
      · intro C j v s₃ m₃ hP hns hm hk
        exact q_notest (v := v) rfl
      · intro C j v s₃ m₃ hP _ hns hm hk
        obtain ⟨x, tx, rfl, hx, _⟩ := strs_at hsc hP
        have hxl := hsl.2 x (filledL_mem hx)
        have hts : 1 ≤ s₃.toks := Nat.le_trans htd hk.2
        have h1 : (x.flatMap fun d => if d = 1 then [34] else [d]).length ≤ 1 * x.length := flat_len (fun d => by split <;> simp) _
        have h2 : ((x.flatMap fun d => if d = 1 then [34] else [d]).flatMap fun d => if d = 2 then [92] else [d]).length ≤ 1 * (x.flatMap fun d => if d = 1 then [34] else [d]).length := flat_len (fun d => by split <;> simp) _
        refine Qt.mono (V := fun v _ => ∃ t, v = .str (S (((x.flatMap fun d => if d = 1 then [34] else [d]).flatMap fun d => if d = 2 then [92] else [d]).flatMap fun d => if d = 3 then [44] else [d])) t) ?_ ?_
        · exact Qs.repl1 3 [44] (Qs.repl1 2 [92] (Qs.repl1 1 [34] (Qs.nameN hns hm) hts (by omega)) hts (by omega)) hts (by omega)
        · rintro v s' ⟨t', rfl⟩ _ x' t'' e
          cases e
          exact ⟨t', by rw [un_marks]⟩
      · rintro al se hal ke ⟨vs', ys, hpl, hvl', hvP, hpair⟩
        have e := same_items hvl' hvP
        subst e
        rw [filter_all] at hpair
        refine ⟨⟨al, ys, rfl, hpl.isList, ?_⟩, Fd.base.trans ke⟩
        rw [← hfin]
        exact paired_strs hsc hpair
end Mine
end
section
open PySem PySem.W PyProof.Rows PySem.Calls
namespace Mine
noncomputable def Al : List Nat := [97, 44, 34, 92, 32, 38, 60, 62, 9, 13, 10, 39, 98]
section
variable {prog : Program} {w : World} {A : Around} {E : Value → Shared → Prop} {s : Shared}
theorem q_sum {a : Addr} {vs : List Value} {ns : List Int} (hh : A.handled = none) (hl : s.heap.IsList a vs.toArray) (hi : IntsAre vs ns) : Qt prog w A (call (.builtin "sum") [.ref a]) (fun v _ => ∃ t, v = .int ns.sum t) s := by
  obtain ⟨xs, hx⟩ := hi.allInts.items
  rw [hx] at hl
  have hn : (numsOf vs.toArray.toList).sum = ns.sum := by rw [show vs.toArray.toList = vs from rfl, hi.numsOf]
  refine Qt.mk (sum_intListG hh hl fun h' tk t' hk => ⟨⟨t', ?_⟩, h', tk, rfl, hk⟩)
  rw [← hn, hx, nums_intItems, preSum_eq, List.take_of_length_le (by simp)]
theorem src_rangeB {r : Addr} {n : Nat} {t u v : Tok} (hr : IsRange s.heap r 0 n 1 t u v) (hn : n < 1000000) : Src prog w (.ref r) s n (fun i v => i < n ∧ ∃ t, v = .int i t) [] := by
  intro A E Q hQ
  refine src_range hr hn A E Q fun I St s₂ hW hst hIt hsz k hI => hQ I St s₂ (fun A' hA => ?_) hst hIt hsz k hI
  have W := hW A' hA
  exact ⟨W.sub, W.frame, fun i s Q E hi st h => W.item i s Q E hi st fun v h' tk hP => h v h' tk ⟨hi, hP⟩, W.done, W.self⟩
end
section
variable {prog : Program} {w : World} {A : Around} {E : Value → Shared → Prop} {s₀ s : Shared} {m cm : Str → Option Value} {env : Env}
/-- y = [.. for x in ..], y a local name -/
theorem st_comp {elt iter : Expr} {x y : Str} {px py : Pos} {ifs : List Expr} {scope : Scope} {cl : List (Str × Addr)} {pos spos : Pos} {n : Nat} {P : Nat → Value → Prop} {Y : List Addr} {Q : Flow → Shared → Prop}
    (p : Value → Bool) (F : Value → Value → Prop) (hA : A.handled = none) (hn : n ≤ sizeLine) (Fr : Fs s₀ env.locals m env.cells cm s)
    (he : Qt prog w A (eval iter env) (fun xv s₁ => Src prog w xv s₁ n P Y) s)
    (htest : ∀ C i v s₃ m₃, P i v → s₃.heap.Ns C m₃ → m₃ x = some v → Hk s s₃ →
      Qt prog w A (forIn ifs true fun c r => if r = true then do let ok ← isTrue c (compEnvC scope cl C env) (eval c (compEnvC scope cl C env)); pure (ForInStep.yield ok) else pure (ForInStep.yield r)) (fun ok _ => ok = p v) s₃)
    (helt : ∀ C i v s₃ m₃, P i v → p v = true → s₃.heap.Ns C m₃ → m₃ x = some v → Hk s s₃ → Qt prog w A (eval elt (compEnvC scope cl C env)) (fun y _ => F v y) s₃)
    (h : ∀ a s', Fs s₀ env.locals (Upd m y (.ref a)) env.cells cm s' → Up (Mx env.locals env.cells) s s' → s.heap.get? a = none → (∃ vs ys : List Value, s'.heap.PlainList a ys.toArray ∧ vs.length = n ∧ (∀ j v, vs[j]? = some v → P j v) ∧ Paired F (vs.filter p) ys) → Q .next s')
    (hsw : swapsWith (.ListComp elt [⟨.Name x px, iter, ifs, 0⟩] scope pos) (some (.Name y py)) spos.line env = pure true := by rfl)
    (hclos : closureFor scope env = pure cl := by rfl) (hcell : ∀ y ∈ scope.names, y.2 ≠ .cell := by decide +kernel) (hkind : scope.kind = .function := by rfl)
    (hnames : ∀ y ∈ scope.names, y.2 = .local → scope.names.lookup y.1 = some .local := by decide +kernel) (hx : scope.names.lookup x = some .local := by rfl)
    (hs : ∀ x, foldedSetIterable iter env x = pure x := by intro _; rfl) (hy : env.kindOf y = some .local := by rfl) (hk : env.scope.kind = .function := by rfl) :
    wpAny (model prog w) A (exec (.Assign [.Name y py] (.ListComp elt [⟨.Name x px, iter, ifs, 0⟩] scope pos) spos) env) Q E s := by
  refine wpAny_with_toks (n := s.toks) (Nat.le_refl _) (wpAny_Assign_ListComp_free p F hsw hclos hcell hkind hnames hx hy (by rw [hk]; rfl) (he.then fun xv s₁ hsrc k₁ => hsrc _ _ _ fun I St s₂ hW hst hIt hsz k₂ hI => ?_) hs)
  have kk : Kp s s₂ := k₁.trans k₂
  have hIs : s.heap.get? I = none := by
    cases e : s.heap.get? I with
    | none => rfl
    | some o => have := k₁.keep _ _ e; rw [hI] at this; cases this
  have hH : ∀ s₃ : Shared, (∀ b o, b ∉ [I] → s₂.heap.get? b = some o → s₃.heap.get? b = some o) → s₂.toks ≤ s₃.toks → Hk s s₃ := fun s₃ hk htk =>
    ⟨fun b o e => hk b o (by rintro hm; rw [List.mem_singleton.mp hm, hIs] at e; cases e) (kk.keep b o e), Nat.le_trans kk.2.2 htk⟩
  have hLI : env.locals ∉ [I] := by
    intro hm
    obtain ⟨o, _, _, ho, _⟩ := Fr.inC.toInCall.ns
    rw [List.mem_singleton.mp hm, hIs] at ho; cases ho
  refine ⟨I, I :: Y, [I], n, P, St, m, rfl, hW A hA, hn, hst, hsz, hLI, (Fr.k kk).inC.toInCall.ns, ⟨?_, ?_⟩, ?_⟩
  · intro C i v s₃ m₃ E' hC hP hns hm hk htk
    exact (htest C i v s₃ m₃ hP hns hm (hH s₃ hk htk)).then fun _ _ a b => ⟨a, b.keeps⟩
  · intro C i v s₃ m₃ E' hC hP hp hns hm hk htk
    exact (helt C i v s₃ m₃ hP hp hns hm (hH s₃ hk htk)).then fun _ _ a b => ⟨a, b.keeps⟩
  · intro D h' tk ys vs hD hl hpl hlen hP hF hns hk htk
    have F₂ := Fr.k kk
    have up : ∀ b o, b ≠ env.locals → s.heap.get? b = some o → h'.get? b = some o := fun b o hb e => hk b o hb (by intro hm; rw [List.mem_singleton.mp hm, hIs] at e; cases e) (kk.keep b o e)
    have e2 : ({ s₂ with heap := h', toks := tk } : Shared) = { s with heap := h', toks := tk } := by
      obtain ⟨⟨h2, t2, rfl⟩, _, _⟩ := kk; rfl
    rw [e2]
    refine h D _ ⟨⟨⟨?_, hns, ?_, Fr.inC.toInCall.fresh⟩, ?_, Fr.inC.apart, Fr.inC.above⟩, Nat.le_trans Fr.tk₀ htk⟩ ⟨⟨h', tk, rfl⟩, ?_, htk⟩ ?_ ⟨vs, ys.toList, by simpa using hpl, hlen, hP, hF⟩
    · obtain ⟨h1, t1, rfl⟩ := Fr.inC.toInCall.same
      exact ⟨h', tk, rfl⟩
    · intro b o e
      exact up b o (by rintro rfl; exact Nat.lt_irrefl _ (Nat.lt_of_lt_of_le (Heap.lt_size e) Fr.inC.toInCall.fresh)) (Fr.inC.toInCall.keep b o e)
    · intro k c hc
      obtain ⟨o, ho, hd⟩ := Fr.inC.cell k c hc
      exact ⟨o, up c o (Nat.ne_of_gt (Fr.inC.above k c (mem_of_lookup hc))) ho, hd⟩
    · intro b o hb e
      exact up b o (fun q => hb (.inl q)) e
    · cases e : s.heap.get? D with
      | none => rfl
      | some o => have := kk.keep _ _ e; rw [hD] at this; cases this
end

theorem Fs.cl {s₀ s : Shared} {L c : Addr} {m cm : Str → Option Value} {cs : List (Str × Addr)} {n : Str} {v : Value} (F : Fs s₀ L m cs cm s) (hv : cm n = some v) (hc : cs.lookup n = some c := by rfl) : s.heap.IsCell c (some v) := by
  have := F.inC.cell n c hc
  rwa [hv] at this
noncomputable def piecesL : List (List Nat) := [[13, 38, 9, 44], [34, 60, 44, 62, 34, 32, 44], [34, 92, 62, 34, 44]]
noncomputable def signsL : List Nat := [97, 44, 34, 92, 32, 38, 60, 62, 9, 13, 10, 44, 34, 92, 39, 98]
noncomputable def keepP (tot : Int) (v : Value) : Bool := match v with | .int k _ => (tot.fdiv (2 ^ k.toNat)).fmod 2 == 0 | _ => false
/-- one of these texts -/
noncomputable def OneOf (ps : List (List Nat)) (_ y : Value) : Prop := ∃ x ∈ ps, ∃ t, y = .str (S x) t
theorem paired_of {ps : List (List Nat)} {vs ys : List Value} (h : Paired (OneOf ps) vs ys) : ∃ xs : List (List Nat), StrsAre ys (xs.map S) ∧ (∀ x ∈ xs, x ∈ ps) ∧ xs.length = vs.length := by
  induction h with
  | nil => exact ⟨[], .nil, by simp, rfl⟩
  | cons hab _ ih =>
    obtain ⟨x, hx, t, rfl⟩ := hab
    obtain ⟨xs, h1, h2, h3⟩ := ih
    exact ⟨x :: xs, .cons _ _ h1, by intro z hz; rcases List.mem_cons.mp hz with rfl | hz; exact hx; exact h2 z hz, by simp [h3]⟩
theorem flatten_le {n : Nat} : ∀ {xs : List (List Nat)}, (∀ x ∈ xs, x.length ≤ n) → xs.flatten.length ≤ n * xs.length
  | [], _ => by simp
  | x :: r, h => by
    have h1 := h x (by simp)
    have h2 := flatten_le (xs := r) fun y hy => h y (by simp [hy])
    rw [List.flatten_cons, List.length_append, List.length_cons, Nat.mul_succ]; omega

theorem header_spec {prog : Program} {w : World} {A : Around} {s : Shared} {d : Nat} {a : Addr} {vs : List Value} {ns : List Int} (G : Gd (K1 w) s.heap) (hA : Ok A d)
    (hl : s.heap.IsList a vs.toArray) (hi : IntsAre vs ns) (h10 : ns.length ≤ 10) :
    Qt prog w A (call (.ref 66) [.ref a]) (fun v s' => ∃ l t, v = .str (S l) t ∧ (∀ c ∈ l, c ∈ Al) ∧ l.length ≤ 100) s := by
  refine fn_ruleC hA (G.K 66 _ (by rfl)) rfl G.lim (codeRec_of G.K (by kernel_rfl)) rfl (by rfl) rfl (kindsX (by kernel_rfl)) ?_
  intro L s₁ F₁
  -- pieces
  refine wpAny_execs_cons ?_
  refine wpAny_Assign_Name ?_
  refine List_ ?_
  refine args_cons (Constant_str (args_cons (Constant_str (args_cons (Constant_str (args_nil ?_))))))
  have k₂ : Kp s₁ { s₁ with toks := s₁.toks + 1 + 1 + 1 } := Kp.tok (by omega)
  refine Qt.then (q_newList (by rw [sizeLine_eq]; simp)) ?_
  rintro v s₂ ⟨ap, rfl, _, hp⟩ k₂'
  have F₂ := F₁.k (k₂.trans k₂')
  refine stC F₂ (by rfl) fun s₃ F₃ u₃ => ?_
  have hp₃ := PL.up hp F₂ u₃
  -- total = sum(numbers)
  refine wpAny_execs_cons ?_
  refine wpAny_Assign_Name ?_
  refine Call_ ?_
  have G₃ : Gd (K1 w) s₃.heap := G.h fun b o e => F₃.base.keep b o e
  refine nmKB (v := .builtin "sum") G₃ (by kernel_rfl) boot_sum ?_
  refine PyProof.Rows.callWith_builtin1 ?_
  refine args_cons ?_
  refine nmL F₃ (v := .ref a) (by rfl) ?_
  refine args_nil ?_
  refine Qt.then (q_sum hA.1 (hl.at fun o e => F₃.base.keep _ _ e) hi) ?_
  rintro v s₄ ⟨t4, rfl⟩ k₄
  have F₄ := F₃.k k₄
  refine stC F₄ (by rfl) fun s₅ F₅ u₅ => ?_
  have hp₅ := PL.up (PL.k hp₃ k₄) F₄ u₅
  -- signs
  refine wpAny_execs_cons ?_
  refine wpAny_Assign_Name ?_
  refine Constant_str ?_
  have k₅ : Kp s₅ { s₅ with toks := s₅.toks + 1 } := Kp.tok (Nat.le_succ _)
  refine stC (F₅.k k₅) (by rfl) fun s₆ F₆ u₆ => ?_
  have hp₆ := PL.up (PL.k hp₅ k₅) (F₅.k k₅) u₆
  have hps : StrsAre [.str "\r&\t," s₁.toks, .str "\"<,>\" ," (s₁.toks + 1), .str "\"\\>\"," (s₁.toks + 1 + 1)] (piecesL.map S) := strs_cons (by decide +kernel) (strs_cons (by decide +kernel) (strs_cons (by decide +kernel) .nil))
  have cP := F₆.cl (n := "pieces") (v := .ref ap) (Upd.miss (by decide) (Upd.miss (by decide) Upd.hit))
  have cT := F₆.cl (n := "total") (v := .int ns.sum t4) (Upd.miss (by decide) Upd.hit)
  have cS := F₆.cl (n := "signs") Upd.hit
  have G₆ : Gd (K1 w) s₆.heap := G.h fun b o e => F₆.base.keep b o e
  have hl₆ := hl.at fun o e => F₆.base.keep _ _ e
  have hvl : vs.length = ns.length := by rw [hi.length]
  -- kept
  refine wpAny_execs_cons ?_
  refine st_comp (n := 3) (P := fun i v => i < 3 ∧ ∃ t, v = .int i t) (Y := []) (keepP ns.sum) (OneOf piecesL) hA.1 (by rw [sizeLine_eq]; omega) F₆ ?_ ?_ ?_ ?_
  · refine Call_ ?_
    refine nmKB (v := .type "range") G₆ (by kernel_rfl) boot_range ?_
    refine PyProof.Rows.callWith_type1 ?_
    refine args_cons ?_
    refine wpAny_Constant_int ?_
    refine args_nil ?_
    refine call_range_1 ?_
    exact ⟨src_rangeB (n := 3) (IsRange.new _ _ _ _ _ _ _) (by omega), (Kp.tok (k := s₆.toks + 1) (by omega)).trans (Kp.heap (by show s₆.toks + 1 ≤ s₆.toks + 1 + 1 + 1; omega) fun b o e => Heap.get?_push_of_some _ e)⟩
  · rintro C i v s₇ m₇ ⟨hi3, tv, rfl⟩ hns hm hk
    refine wpAny_tests_one ?_
    refine wpAny_isTrue_Compare1 ?_
    refine wpAny_BinOp ?_
    refine wpAny_BinOp ?_
    refine nmX (cT.keeps hk.1) ?_
    refine wpAny_BinOp ?_
    refine wpAny_Constant_int ?_
    refine nmN (s := { s₇ with toks := s₇.toks + 1 }) hns hm ?_
    refine pow_int_small (by omega) (by omega) (by decide) ?_
    have hb2 : ((2 : Int) ^ ((i : Int).toNat)) ≠ 0 := by
      have : i = 0 ∨ i = 1 ∨ i = 2 := by omega
      rcases this with rfl | rfl | rfl <;> decide
    refine floordiv_int hb2 ?_ (Or.inl (by
      have : i = 0 ∨ i = 1 ∨ i = 2 := by omega
      rcases this with rfl | rfl | rfl <;> exact PyProof.noPylong_of_log2 (by decide +kernel)))
    refine wpAny_Constant_int ?_
    refine mod_int' (by decide) ?_
    refine wpAny_Constant_int ?_
    refine P.eq_int ?_
    refine wpAny_truthy_bool ?_
    exact ⟨rfl, Kp.tok (by show s₇.toks ≤ s₇.toks + 1 + 1 + 1 + 1 + 1 + 1; omega)⟩
  · rintro C i v s₇ m₇ ⟨hi3, tv, rfl⟩ _ hns hm hk
    refine Subscript_ ?_
    refine nmX (cP.keeps hk.1) ?_
    refine nmN hns hm ?_
    obtain ⟨tp, hpi⟩ := strs_get hps (i := i) (by show i < 3; exact hi3)
    refine at_idx (hp₆.isList.at fun o e => hk.1 _ _ e) hpi (by omega) ?_
    refine ⟨⟨piecesL.getD i [], ?_, tp, rfl⟩, Kp.rfl'⟩
    have : i = 0 ∨ i = 1 ∨ i = 2 := by omega
    rcases this with rfl | rfl | rfl <;> decide
  · rintro ak s₇ F₇ u₇ hak ⟨vk, yk, hpk, hlk, _, hpairk⟩
    obtain ⟨xs, hxs, hxm, hxl⟩ := paired_of hpairk
    have hxl3 : xs.length ≤ 3 := by rw [hxl]; exact Nat.le_trans (List.length_filter_le _ _) (by omega)
    -- return ''.join(kept + [..])
    refine wpAny_execs_cons ?_
    refine wpAny_Return_some ?_
    refine mc1 ?_
    refine Constant_str ?_
    refine onStr PySem.F.slot_str_join PySem.F.type_str_join ?_
    refine cw1 ?_
    refine wpAny_BinOp ?_
    have k₇ : Kp s₇ { s₇ with toks := s₇.toks + 1 } := Kp.tok (Nat.le_succ _)
    refine nmL (F₇.k k₇) (v := .ref ak) Upd.hit ?_
    have hl₇ : s₇.heap.IsList a vs.toArray := hl.at fun o e => F₇.base.keep _ _ e
    have cS₇ := F₇.cl (n := "signs") Upd.hit
    refine c_comp (n := vs.length) (P := fun i v => vs[i]? = some v) (Y := [a]) (fun _ => true) (OneOf (signsL.map fun c => [c])) hA.1 (by rw [sizeLine_eq]; omega) (nmL (F₇.k k₇) (v := .ref a) (by rfl) ⟨src_list hl₇, Kp.rfl'⟩) ?_ ?_ ?_
    · intro C j v s₈ m₈ hP hns hm hk
      exact q_notest (v := v) rfl
    · intro C j v s₈ m₈ hP _ hns hm hk
      obtain ⟨n, tn, rfl, hn⟩ := ints_at hi hP
      refine Subscript_ ?_
      refine nmX (cS₇.keeps fun b o e => hk.1 b o (k₇.keep b o e)) ?_
      refine wpAny_BinOp ?_
      refine nmN hns hm ?_
      refine wpAny_Constant_int ?_
      refine mod_int' (by decide) ?_
      have hf0 : 0 ≤ n.fmod 16 := Int.fmod_nonneg_of_pos n (by omega)
      have hf1 : n.fmod 16 < 16 := Int.fmod_lt_of_pos n (by omega)
      obtain ⟨k, hk16, hkf⟩ : ∃ k : Nat, k < 16 ∧ n.fmod 16 = (k : Int) := ⟨(n.fmod 16).toNat, by omega, by omega⟩
      rw [hkf]
      have hsg : (Str.ofString "a,\"\\ &<>\t\r\n,\"\\'b") = S signsL := by decide +kernel
      rw [hsg]
      have hki : signsL[k]? = some signsL[k] := List.getElem?_eq_getElem hk16
      refine tail_of_ItemOn ⟨"str", _, PySem.F.slot_str_getitem.lookup, typeIs_str _ _ _, P.getItem_str (c := signsL[k]) ?_ ?_ ?_⟩ (by with_unfolding_all rfl) (by intro _; with_unfolding_all rfl)
      · rw [Bool.or_eq_false_iff]; exact ⟨decide_eq_false (by omega), decide_eq_false (by omega)⟩
      · exact StrLaws.at_nonneg (by omega) (by simpa using hki)
      · exact ⟨⟨[signsL[k]], List.mem_map.mpr ⟨_, List.getElem_mem _, rfl⟩, _, rfl⟩, Kp.tok (by show s₈.toks ≤ s₈.toks + 1 + 1 + 1; omega)⟩
    · rintro al s₈ hal k₈ ⟨vs', ys, hpl, hvl', hvP, hpair⟩
      rw [filter_all] at hpair
      obtain ⟨zs, hzs, hzm, hzl⟩ := paired_of hpair
      have hpk₈ := PL.k (PL.k hpk k₇) k₈
      have hyk : yk.length = xs.length := by rw [hxs.length, List.length_map]
      have hyz : ys.length = zs.length := by rw [hzs.length, List.length_map]
      refine Qt.then (q_addL hpk₈.isList hpl.isList (by omega)) ?_
      rintro v s₉ ⟨ad, rfl, _, hpd⟩ k₉
      have hall : StrsAre (yk ++ ys) ((xs ++ zs).map S) := by rw [List.map_append]; exact hxs.append' hzs
      have hmem : ∀ x ∈ xs ++ zs, (∀ c ∈ x, c ∈ Al) ∧ x.length ≤ 7 := by
        intro x hx
        rcases List.mem_append.mp hx with hx | hx
        · have : ∀ x ∈ piecesL, (∀ c ∈ x, c ∈ Al) ∧ x.length ≤ 7 := by decide +kernel
          exact this x (hxm x hx)
        · have : ∀ x ∈ signsL.map (fun c => [c]), (∀ c ∈ x, c ∈ Al) ∧ x.length ≤ 7 := by decide +kernel
          exact this x (hzm x hx)
      have hfl : (xs ++ zs).flatten.length ≤ 7 * (xs ++ zs).length := flatten_le fun x hx => (hmem x hx).2
      have h10' : zs.length ≤ 10 := by omega
      rw [List.length_append] at hfl
      refine Qt.then (q_join hpd.isList hall (by omega)) ?_
      rintro v sz ⟨tz, rfl⟩ kz
      refine ⟨⟨(xs ++ zs).flatten, tz, rfl, ?_, ?_⟩, F₇.base.trans (((k₇.trans k₈).trans k₉).trans kz)⟩
      · intro c hc
        obtain ⟨x, hx, hcx⟩ := List.mem_flatten.mp hc
        exact (hmem x hx).1 c hcx
      · omega
end Mine
end
section
open PySem PySem.W PyProof.Rows PySem.Calls
namespace Mine
noncomputable def gr (hs : List Nat) (c : Nat) : List Nat := spellRow hs [c]
theorem spellRow_flat : ∀ (hs l : List Nat), spellRow hs l = l.flatMap (gr hs)
  | [], l => by
    show l = l.flatMap fun c => [c]
    induction l with
    | nil => rfl
    | cons c r ih => rw [List.flatMap_cons, ← ih]; rfl
  | h :: r, l => by
    show spellRow r (l.flatMap (spell (tabs.getD h []))) = _
    rw [spellRow_flat r, flatMap_flatMap]
    congr 1
    funext c
    show _ = spellRow r ([c].flatMap (spell (tabs.getD h [])))
    rw [spellRow_flat r]; simp
theorem spell_ne (h d : Nat) : spell (tabs.getD h []) d ≠ [] := by
  have key : ∀ T ∈ tabs, ∀ p ∈ T, p.2 ≠ [] := by decide +kernel
  unfold spell
  cases hl : (tabs.getD h []).lookup d with
  | none => simp
  | some u =>
    have hm := memT hl
    rw [List.getD_eq_getElem?_getD] at hm
    cases ht : tabs[h]? with
    | none => rw [ht] at hm; simp at hm
    | some T => rw [ht] at hm; exact key T (List.mem_of_getElem? ht) _ hm
theorem gr_ne (hs : List Nat) (c : Nat) : gr hs c ≠ [] := by
  have : ∀ (hs l : List Nat), l ≠ [] → spellRow hs l ≠ [] := by
    intro hs
    induction hs with
    | nil => intro l h; exact h
    | cons h r ih =>
      intro l hl
      refine ih _ ?_
      intro e
      exact hl ((flat_nil (spell_ne h) l).mp e)
  exact this hs [c] (by simp)
noncomputable def rowsAll : List (List Nat) := (List.range 5).map (fun h => [h]) ++ (List.range 5).flatMap fun h => (List.range 5).map fun k => [h, k]
noncomputable def bareL (hs : List Nat) : List Nat := 32 :: [13, 10, 9].filter fun c => decide (gr hs c = [c])
noncomputable def plainB (w : List Nat) : Bool := !w.isEmpty && w.all fun c => c != 34 && c != 92 && c != 44
noncomputable def goodB (hs : List Nat) (c : Nat) : Bool := (gr hs c == [c] || plainB (gr hs c)) && (c != 92 || gr hs c == [c]) && (c != 44 || gr hs c == [c])
noncomputable def endsB (hs : List Nat) (c : Nat) : Bool := if (bareL hs).contains c then gr hs c == [c] && Unicode.isSpace c else (match gr hs c with | a :: _ => !Unicode.isSpace a | [] => false) && (match (gr hs c).reverse with | b :: _ => !Unicode.isSpace b | [] => false)
theorem facts_good : ∀ hs ∈ rowsAll, ∀ c ∈ Al, goodB hs c = true := by decide +kernel
theorem facts_ends : ∀ hs ∈ rowsAll, ∀ c ∈ Al, endsB hs c = true := by decide +kernel
theorem facts_pf : ∀ hs ∈ rowsAll, ∀ c ∈ Al, ∀ d ∈ Al, c ≠ d → (gr hs c).isPrefixOf (gr hs d) = false := by decide +kernel
theorem facts_quote : ∀ hs ∈ rowsAll, gr hs 34 = [34] ∨ ∀ c ∈ Al, 34 ∉ gr hs c := by decide +kernel
theorem facts_sp : Unicode.isSpace 44 = false ∧ Unicode.isSpace 92 = false ∧ Unicode.isSpace 32 = true ∧ Unicode.isSpace 13 = true ∧ Unicode.isSpace 10 = true ∧ Unicode.isSpace 9 = true := by decide +kernel

theorem good_of {hs : List Nat} (hr : hs ∈ rowsAll) {c : Nat} (hc : c ∈ Al) : Good (gr hs) c := by
  have := facts_good hs hr c hc
  unfold goodB at this
  rw [Bool.and_eq_true, Bool.and_eq_true, Bool.or_eq_true, Bool.or_eq_true, Bool.or_eq_true] at this
  obtain ⟨⟨h1, h2⟩, h3⟩ := this
  refine ⟨?_, fun e => ?_, fun e => ?_⟩
  · rcases h1 with h1 | h1
    · exact .inl (eq_of_beq h1)
    · right
      unfold plainB at h1
      rw [Bool.and_eq_true] at h1
      refine ⟨by intro e; rw [e] at h1; simp at h1, fun d hd => ?_⟩
      have := List.all_eq_true.mp h1.2 d hd
      simp at this
      exact ⟨this.1.1, this.1.2, this.2⟩
  · rcases h2 with h2 | h2
    · rw [e] at h2; simp at h2
    · exact eq_of_beq h2
  · rcases h3 with h3 | h3
    · rw [e] at h3; simp at h3
    · exact eq_of_beq h3
theorem ends_of {hs : List Nat} (hr : hs ∈ rowsAll) {c : Nat} (hc : c ∈ Al) : Ends (gr hs) Unicode.isSpace (fun d => (bareL hs).contains d) c := by
  have := facts_ends hs hr c hc
  unfold endsB at this
  refine ⟨fun hb => ?_, fun hb => ?_⟩
  · rw [if_pos hb, Bool.and_eq_true] at this
    exact ⟨eq_of_beq this.1, this.2⟩
  · rw [if_neg (by rw [hb]; simp), Bool.and_eq_true] at this
    obtain ⟨h1, h2⟩ := this
    cases hg : gr hs c with
    | nil => rw [hg] at h1; simp at h1
    | cons a w =>
      rw [hg] at h1
      cases hv : (gr hs c).reverse with
      | nil => rw [hv] at h2; simp at h2
      | cons b z =>
        rw [hv] at h2
        have e : gr hs c = z.reverse ++ [b] := by have := congrArg List.reverse hv; simpa using this
        exact ⟨a, w, b, z.reverse, rfl, by simpa using h1, by rw [← hg]; exact e, by simpa using h2⟩
theorem pieces_sub {l : List Nat} {D : List Nat} (h : ∀ c ∈ l, c ∈ D) : ∀ p ∈ parseR l, ∀ c ∈ p, c ∈ D := by
  intro p hp c hc
  refine Classical.byContradiction fun hn => ?_
  have hf := run_free (d := c) l (fun q => hn (h c q)) init (by simp [init])
  rw [← filledL_pieces] at hp
  exact hf p (filledL_mem hp) hc
theorem split_sub {l : List Nat} {D : List Nat} (h : ∀ c ∈ l, c ∈ D) : ∀ p ∈ filledL (splitL 44 l), ∀ c ∈ p, c ∈ D := by
  intro p hp c hc
  refine h c ?_
  have := joinL_splitL 44 l
  rw [← this]
  have hm := filledL_mem hp
  have : ∀ ps : List (List Nat), p ∈ ps → c ∈ joinL [44] ps := by
    intro ps
    induction ps with
    | nil => intro h; simp at h
    | cons q r ih =>
      intro hq
      cases r with
      | nil => rw [List.mem_singleton.mp hq] at hc; exact hc
      | cons q' r =>
        rw [joinL_cons _ _ (by simp)]
        rcases List.mem_cons.mp hq with rfl | hq
        · simp [hc]
        · simp [ih hq]
  exact this _ hm
noncomputable def partsL (hs l : List Nat) : List (List Nat) := if gr hs 34 = [34] then parseR l else filledL (splitL 44 l)
noncomputable def toldL (hs l : List Nat) : List (List Nat) := (partsL hs l).map fun p => stripL Unicode.isSpace (spellRow hs p)
theorem told_is {hs l : List Nat} (hr : hs ∈ rowsAll) (hl : ∀ c ∈ l, c ∈ Al) : parseL (spellRow hs l) = toldL hs l := by
  have hG : ∀ c ∈ l, Good (gr hs) c := fun c hc => good_of hr (hl c hc)
  unfold parseL toldL partsL
  rw [spellRow_flat]
  have e : (fun p => stripL Unicode.isSpace (spellRow hs p)) = (stripL Unicode.isSpace) ∘ fun p => p.flatMap (gr hs) := by funext p; simp [spellRow_flat]
  rw [e]
  by_cases hq : gr hs 34 = [34]
  · rw [if_pos hq, parseR_bare (gr_ne hs) hG (fun c _ e => by rw [e]; exact hq), List.map_map]
  · rw [if_neg hq]
    have hno := (facts_quote hs hr).resolve_left hq
    have h34 : 34 ∉ l.flatMap (gr hs) := by
      intro hm
      obtain ⟨c, hc, hm⟩ := List.mem_flatMap.mp hm
      exact hno c (hl c hc) hm
    rw [parseR_noquote h34, splitL_flat l hG, ← filledL_map (fun p => p.flatMap (gr hs)) (flat_nil (gr_ne hs)), List.map_map]
theorem parts_sub {hs l : List Nat} (hl : ∀ c ∈ l, c ∈ Al) : ∀ p ∈ partsL hs l, ∀ c ∈ p, c ∈ Al := by
  unfold partsL
  split
  · exact pieces_sub hl
  · exact split_sub hl
theorem bare_sp (hs : List Nat) (c : Nat) (h : (bareL hs).contains c = true) : Unicode.isSpace c = true := by
  have hm : c ∈ bareL hs := by simpa using h
  unfold bareL at hm
  rcases List.mem_cons.mp hm with rfl | hm
  · exact facts_sp.2.2.1
  · have := (List.mem_filter.mp hm).1
    simp at this
    rcases this with rfl | rfl | rfl
    · exact facts_sp.2.2.2.1
    · exact facts_sp.2.2.2.2.1
    · exact facts_sp.2.2.2.2.2
theorem again_iff {hs l : List Nat} (hr : hs ∈ rowsAll) (hl : ∀ c ∈ l, c ∈ Al) :
    (parseL l).map (spellRow hs) = toldL hs l ↔ (partsL hs l = parseR l ∧ ∀ p ∈ partsL hs l, stripL Unicode.isSpace p = stripL (fun d => (bareL hs).contains d) p) := by
  have htold : toldL hs l = (partsL hs l).map fun p => (stripL (fun d => (bareL hs).contains d) p).flatMap (gr hs) := by
    unfold toldL
    refine List.map_congr_left fun p hp => ?_
    rw [spellRow_flat, strip_flat p fun c hc => ends_of hr (parts_sub hl p hp c hc)]
  have hag : (parseL l).map (spellRow hs) = (parseR l).map fun p => (stripL Unicode.isSpace p).flatMap (gr hs) := by
    unfold parseL
    rw [List.map_map]
    exact List.map_congr_left fun p _ => spellRow_flat hs _
  rw [htold, hag]
  have sub : ∀ (q : Nat → Bool) (p : List Nat), ∀ c ∈ stripL q p, c ∈ p := by
    intro q p c hc
    unfold stripL at hc
    rw [List.mem_reverse] at hc
    have := List.dropWhile_subset q hc
    rw [List.mem_reverse] at this
    exact List.dropWhile_subset q this
  constructor
  · intro h
    have hlen : (parseR l).length = (partsL hs l).length := by simpa using congrArg List.length h
    have hpt : (parseR l).map (stripL Unicode.isSpace) = (partsL hs l).map (stripL fun d => (bareL hs).contains d) := by
      refine List.ext_getElem (by simpa using hlen) fun i h1 h2 => ?_
      have e := congrArg (fun x => x[i]?) h
      simp only [List.getElem?_map] at e
      have i1 : i < (parseR l).length := by simpa using h1
      have i2 : i < (partsL hs l).length := by simpa using h2
      rw [List.getElem?_eq_getElem i1, List.getElem?_eq_getElem i2] at e
      simp only [Option.map_some, Option.some.injEq] at e
      simp only [List.getElem_map]
      refine flat_inj (D := fun c => c ∈ Al) (gr_ne hs) (fun c d hc hd hn hp => ?_) _ _ ?_ ?_ e
      · have := facts_pf hs hr c hc d hd hn
        rw [List.isPrefixOf_iff_prefix.mpr hp] at this; cases this
      · intro c hc; exact pieces_sub hl _ (List.getElem_mem i1) c (sub _ _ c hc)
      · intro c hc; exact parts_sub hl _ (List.getElem_mem i2) c (sub _ _ c hc)
    have heq : partsL hs l = parseR l := by
      unfold partsL at hpt ⊢
      split
      · rfl
      · rename_i hq
        rw [if_neg hq] at hpt
        refine (same_reading facts_sp.1 facts_sp.2.1 ?_).symm
        have h2 := congrArg (fun x => x.map fun p => p.filter fun c => !Unicode.isSpace c) hpt
        simp only [List.map_map] at h2
        have n1 : ((fun p : List Nat => p.filter fun c => !Unicode.isSpace c) ∘ stripL Unicode.isSpace) = fun p => p.filter fun c => !Unicode.isSpace c := by
          funext p; exact strip_nw (fun _ h => h) p
        have n2 : ((fun p : List Nat => p.filter fun c => !Unicode.isSpace c) ∘ stripL fun d => (bareL hs).contains d) = fun p => p.filter fun c => !Unicode.isSpace c := by
          funext p; exact strip_nw (bare_sp hs) p
        rw [n1, n2] at h2
        exact h2
    refine ⟨heq, ?_⟩
    rw [heq] at hpt ⊢
    exact fun p hp => List.map_inj_left.mp hpt p hp
  · rintro ⟨h1, h2⟩
    rw [← h1]
    exact List.map_congr_left fun p hp => by rw [h2 p hp]
end Mine
end
section
open PySem PySem.W PyProof.Rows PySem.Calls
namespace Mine
theorem Up.itb {X : Addr → Prop} {sb s s' : Shared} {I : Addr} (u : Up X sb s) (h : sb.heap.get? I = none) (v : Up (· = I) s s') : Up X sb s' := by
  obtain ⟨⟨h1, t1, rfl⟩, a2, a3⟩ := u
  obtain ⟨⟨h2, t2, rfl⟩, b2, b3⟩ := v
  exact ⟨⟨h2, t2, rfl⟩, fun b o hb e => b2 b o (by rintro rfl; rw [h] at e; cases e) (a2 b o hb e), Nat.le_trans a3 b3⟩
theorem IL.up {s₀ s s' : Shared} {L r : Addr} {m cm : Str → Option Value} {cs : List (Str × Addr)} {vs : List Value} (hr : s.heap.IsList r vs.toArray) (F : Fs s₀ L m cs cm s) (u : Up (Mx L cs) s s') : s'.heap.IsList r vs.toArray := by
  obtain ⟨a', e, h⟩ := IsL.up (v := .ref r) ⟨r, rfl, hr⟩ F u
  cases e; exact h
theorem IL.k {s s' : Shared} {r : Addr} {vs : List Value} (hr : s.heap.IsList r vs.toArray) (k : Kp s s') : s'.heap.IsList r vs.toArray := hr.at fun o e => k.keep _ _ e
theorem IL.it {s s' : Shared} {r I : Addr} {vs : List Value} (hr : s.heap.IsList r vs.toArray) (h : It s I) (u : Up (· = I) s s') : s'.heap.IsList r vs.toArray := by
  obtain ⟨a', e, h⟩ := IsL.it (v := .ref r) ⟨r, rfl, hr⟩ h u
  cases e; exact h
theorem none_back {s s' : Shared} {I : Addr} (k : Kp s s') (h : s'.heap.get? I = none) : s.heap.get? I = none := by
  cases e : s.heap.get? I with
  | none => rfl
  | some o => have := k.keep _ _ e; rw [h] at this; cases this
theorem IsD.up {prog : Program} {w : World} {s s' : Shared} {d : Addr} {ps : List (List Nat)} {f : List Nat → List Nat} {X : Addr → Prop} (D : IsD prog w s d ps f) (hd : ¬ X d) (u : Up X s s') : IsD prog w s' d ps f :=
  let ⟨a, kvs, hdd, r⟩ := D; ⟨a, kvs, hdd.at fun o e => u.2.1 d o hd e, r⟩
section
variable {prog : Program} {w : World} {A : Around} {s₀ s : Shared} {m cm : Str → Option Value} {env : Env}
/-- a for loop over what its head makes -/
theorem st_forK {target iter : Expr} {body : List Stmt} {pos : Pos} {Q : Flow → Shared → Prop} {E : Value → Shared → Prop} (hA : A.handled = none)
    (he : wpAny (model prog w) A (eval iter env) (fun xv s => ∃ (n : Nat) (P : Nat → Value → Prop) (Y : List Addr) (X : Addr → Prop) (J : Nat → Shared → Prop), Src prog w xv s n P Y ∧
      (∀ b, X b → b ∉ Y ∧ ∃ o, s.heap.get? b = some o) ∧ (∀ s₁, Kp s s₁ → J 0 s₁) ∧ (∀ I i s₁ s₂, s.heap.get? I = none → J i s₁ → It s₁ I → Up (· = I) s₁ s₂ → J i s₂) ∧
      (∀ i v s₁, i < n → P i v → J i s₁ → wpAny (model prog w) A (assign target env v) (fun _ s₂ => wpAny (model prog w) A (execs body env) (fun f s₃ => match f with
      | .next | .cont => J (i + 1) s₃ ∧ Up X s₁ s₃ | .brk => False | .ret v => Q (.ret v) s₃) (fun _ _ => False) s₂) (fun _ _ => False) s₁) ∧
      (∀ s₁, J n s₁ → Q .next s₁)) E s)
    (hs : ∀ x, foldedSetIterable iter env x = pure x := by intro _; rfl)
    (ht : ∀ I v, letOwnedTupleGo target (.ref I) v = pure () := by intro _ _; rfl) :
    wpAny (model prog w) A (exec (.For target iter body [] pos) env) Q E s := by
  refine wpAny_For (wpAny_mono he (fun xv s₁ ⟨n, P, Y, X, J, hsrc, hX, h0, hJ, turn, done⟩ => hsrc _ _ _ fun I St s₂ hW hst hIt hsz k₂ hIs => ?_) fun _ _ e => e) hs
  have W := hW A hA
  have hXI : ∀ b, X b → b ∉ I :: Y := by
    intro b hb hm
    obtain ⟨hY, o, ho⟩ := hX b hb
    rcases List.mem_cons.mp hm with rfl | hm
    · rw [hIs] at ho; cases ho
    · exact hY hm
  refine codeAny_forLoop_any (fun k s' => ∃ i, i ≤ n ∧ k = n + 1 - i ∧ St i s'.heap ∧ J i s') ?_ (n + 1) ⟨0, Nat.zero_le _, rfl, hst, h0 _ k₂⟩
  rintro k s₃ ⟨i, hi, rfl, hst₃, hj⟩
  by_cases hlt : i < n
  · refine wpAny_with_toks (n := s₃.toks) (Nat.le_refl _) (W.item i s₃ _ _ hlt hst₃ fun v h' tk hP hst' hk htk => ?_)
    have u : Up (· = I) s₃ { s₃ with heap := h', toks := tk } := ⟨⟨h', tk, rfl⟩, fun b o hb e => hk b o (fun hm => hb (List.mem_singleton.mp hm)) e, htk⟩
    have hj' := hJ I i _ _ hIs hj (hIt i s₃ hst₃) u
    refine wpAny_of_eq (ht I v) ?_
    refine wpAny_mono (turn i v _ hlt hP hj') (fun _ s₄ h₄ => wpAny_mono h₄ (fun f s₅ h₅ => ?_) fun _ _ x => x.elim) fun _ _ x => x.elim
    have fin : J (i + 1) s₅ ∧ Up X { s₃ with heap := h', toks := tk } s₅ → ∃ m, m < n + 1 - i ∧ ∃ i, i ≤ n ∧ m = n + 1 - i ∧ St i s₅.heap ∧ J i s₅ := by
      rintro ⟨hj₅, u₅⟩
      exact ⟨n + 1 - (i + 1), by omega, i + 1, hlt, rfl, W.frame _ _ _ hst' fun b hb o e => u₅.2.1 b o (fun hx => hXI b hx hb) e, hj₅⟩
    cases f with
    | next => exact fin h₅
    | cont => exact fin h₅
    | brk => exact h₅.elim
    | ret v => exact h₅
  · have hin : i = n := by omega
    subst hin
    refine wpAny_with_toks (n := s₃.toks) (Nat.le_refl _) (W.done s₃ _ _ hst₃ fun h' tk hk htk => ?_)
    refine wpAny_execs_nil (done _ (hJ I i s₃ _ hIs hj (hIt i s₃ hst₃) ⟨⟨h', tk, rfl⟩, fun b o hb e => hk b o (fun hm => hb (List.mem_singleton.mp hm)) e, htk⟩))
end
section
variable {prog : Program} {w : World} {A : Around} {E : Value → Shared → Prop} {s₀ s : Shared} {m cm : Str → Option Value} {env : Env} {n k : Str}
/-- as asg2s, told from the state behind the value -/
theorem asg2t {value : Expr} {p1 p2 p3 pos : Pos} {q : Nat} {Q : Flow → Shared → Prop} (F : Fs s₀ env.locals m env.cells cm s)
    (he : wpAny (model prog w) A (eval value env) (fun v s₁ => ∃ x y, Kp s s₁ ∧ Qt prog w A (unpackItems v 2 none) (fun vs _ => vs = [x, y]) s₁ ∧
      ∀ s', Fs s₀ env.locals (Upd (Upd m k y) n x) env.cells cm s' → Up (Mx env.locals env.cells) s₁ s' → Q .next s') E s)
    (hs : swapsWithSole [.Tuple [.Name n p1, .Name k p2] q p3] value pos.line env = pure false := by rfl)
    (hw : swappedStores [.Tuple [.Name n p1, .Name k p2] q p3] value env = pure (some [n, k]) := by rfl)
    (hk : env.scope.kind = .function := by rfl) (hn : env.kindOf n = some .local := by rfl) (hn' : env.kindOf k = some .local := by rfl) :
    wpAny (model prog w) A (exec (.Assign [.Tuple [.Name n p1, .Name k p2] q p3] value pos) env) Q E s := by
  refine Assign_Tuple_swapped (names := [n, k]) (wpAny_mono he (fun v s₁ h₁ => ?_) fun _ _ e => e) hs hw
  obtain ⟨x, y, k₁, hu, h⟩ := h₁
  refine hu.then fun vs s₂ e k₂ => ?_
  subst e
  show wpAny _ _ (do holding [x] (bindName env k y); assignInOrder [bindName env n] [x]) _ _ _
  refine wpAny_bind (wpAny_holding (bindName_ (stL (F.k (k₁.trans k₂)) (fun s₃ F₃ u₃ => ?_) hk hn')))
  show wpAny _ _ (do holding [] (bindName env n x); assignInOrder [] []) _ _ _
  refine wpAny_bind (wpAny_holding (bindName_ (stL F₃ (fun s₄ F₄ u₄ => ?_) hk hn)))
  exact wpAny_pure (h s₄ F₄ (((Up.of k₂).trans u₃).trans u₄))
end
/-- the five escapes -/
noncomputable def handF (h : Nat) : Addr := [33, 40, 47, 54, 61].getD h 0
theorem hand_spec {prog : Program} {w : World} {A : Around} {s : Shared} {d h : Nat} {l : List Nat} {t : Tok} (G : Gd (K1 w) s.heap) (hA : Ok A d) (h5 : h < 5) (hl : l.length ≤ 100000) :
    Qt prog w A (call (.ref (handF h)) [.str (S l) t]) (fun v _ => ∃ t', v = .str (S (l.flatMap (spell (tabs.getD h [])))) t') s := by
  match h, h5 with
  | 0, _ => exact esc0 G hA hl
  | 1, _ => exact esc1 G hA hl
  | 2, _ => exact esc2 G hA hl
  | 3, _ => exact esc3 G hA hl
  | 4, _ => exact esc4 G hA hl
theorem hand_obj {w : World} {s : Shared} {h : Nat} (G : Gd (K1 w) s.heap) (h5 : h < 5) : ∃ o fd, s.heap.get? (handF h) = some o ∧ o.data = .func fd := by
  match h, h5 with
  | 0, _ => exact ⟨_, _, G.K 33 _ (by rfl), rfl⟩
  | 1, _ => exact ⟨_, _, G.K 40 _ (by rfl), rfl⟩
  | 2, _ => exact ⟨_, _, G.K 47 _ (by rfl), rfl⟩
  | 3, _ => exact ⟨_, _, G.K 54 _ (by rfl), rfl⟩
  | 4, _ => exact ⟨_, _, G.K 61 _ (by rfl), rfl⟩
noncomputable def handsV : List Value := [.ref 33, .ref 40, .ref 47, .ref 54, .ref 61]
theorem hands_at {h : Nat} (h5 : h < 5) : handsV[h]? = some (.ref (handF h)) := by
  match h, h5 with
  | 0, _ => rfl
  | 1, _ => rfl
  | 2, _ => rfl
  | 3, _ => rfl
  | 4, _ => rfl
theorem strip_len (g : Nat → Bool) (l : List Nat) : (stripL g l).length ≤ l.length := by
  unfold stripL
  rw [List.length_reverse]
  refine Nat.le_trans (List.dropWhile_sublist g).length_le ?_
  rw [List.length_reverse]
  exact (List.dropWhile_sublist g).length_le
theorem rows_small : ∀ hs ∈ rowsAll, hs.length ≤ 2 ∧ ∀ h ∈ hs, h < 5 := by decide +kernel
theorem rows_off : ∀ hs ∈ rowsAll, ∀ h ∈ hs, ∀ p ∈ tabs.getD h [], p.1 ∈ alls := by decide +kernel
theorem spellRow_off {c : Nat} (hc : c ∉ alls) : ∀ hs : List Nat, (∀ h ∈ hs, ∀ p ∈ tabs.getD h [], p.1 ∈ alls) → spellRow hs [c] = [c]
  | [], _ => rfl
  | h :: r, hh => by
    have e : spell (tabs.getD h []) c = [c] := by
      unfold spell
      cases hl : (tabs.getD h []).lookup c with
      | none => rfl
      | some u => exact absurd (hh h (by simp) _ (memT hl)) hc
    show spellRow r ([c].flatMap (spell (tabs.getD h []))) = _
    rw [List.flatMap_cons, e]
    exact spellRow_off hc r fun k hk => hh k (by simp [hk])
theorem spellRow_le {hs l : List Nat} (h : hs.length ≤ 2) : (spellRow hs l).length ≤ 36 * l.length := by
  have h1 := spellRow_len hs l
  have h4 : 6 ^ hs.length ≤ 6 ^ 2 := Nat.pow_le_pow_right (by omega) h
  exact Nat.le_trans h1 (Nat.mul_le_mul_right _ h4)
/-- what the table of a row gives of a sign -/
theorem table_get {hs : List Nat} (hr : hs ∈ rowsAll) (c : Nat) : (if [c] ∈ alls.map (fun c => [c]) then spellRow hs [c] else [c]) = gr hs c := by
  by_cases hc : c ∈ alls
  · rw [if_pos (List.mem_map.mpr ⟨c, hc, rfl⟩)]; rfl
  · rw [if_neg (by intro h; obtain ⟨d, hd, e⟩ := List.mem_map.mp h; cases e; exact hc hd)]
    exact (spellRow_off hc hs (rows_off hs hr)).symm
theorem filter_signs {q : Nat → Bool} {p : Value → Bool} {l : List Nat} {vs ys : List Value} (hl : vs.length = l.length) (hP : ∀ (j : Nat) v, vs[j]? = some v → SignAt (S l) j v) (hq : ∀ c t, p (.str (S [c]) t) = q c)
    (hp : Paired (ToS id) (vs.filter p) ys) : StrsAre ys (((l.filter q).map fun c => [c]).map S) := by
  have h : StrsAre (vs.filter p) (((l.filter q).map fun c => [c]).map S) := by
    clear hp
    induction l generalizing vs with
    | nil => cases vs with
      | nil => exact .nil
      | cons v r => cases hl
    | cons c r ih =>
      cases vs with
      | nil => cases hl
      | cons v vs =>
        obtain ⟨c', u, hc, rfl⟩ := hP 0 v rfl
        have e : c' = c := by simpa using hc.symm
        subst e
        have ih' := ih (vs := vs) (by simpa using hl) fun j v hv => by
          obtain ⟨c'', u', h1, h2⟩ := hP (j + 1) v hv
          exact ⟨c'', u', by simpa using h1, h2⟩
        rw [List.filter_cons, List.filter_cons, show p (.str ⟨#[c']⟩ u) = q c' from hq c' u]
        cases q c' with
        | true => exact .cons _ _ ih'
        | false => exact ih'
  have := paired_strs h hp
  rwa [List.map_id] at this
theorem flat_one : ∀ l : List Nat, (l.map fun c => [c]).flatten = l
  | [] => rfl
  | c :: r => by rw [List.map_cons, List.flatten_cons, flat_one r]; rfl
end Mine
end
section
open PySem PySem.W PyProof.Rows PySem.Calls
namespace Mine
noncomputable def LJ {s₀ sb : Shared} {L : Addr} {cs : List (Str × Addr)} {mb cmb : Str → Option Value} (_ : Fs s₀ L mb cs cmb sb) (hd it aw ha : Value) (s : Shared) : Prop :=
  ∃ m cm, Fs s₀ L m cs cm s ∧ m "header" = some hd ∧ m "items" = some it ∧ m "aware" = some aw ∧ cm "hands" = some ha ∧ Up (Mx L cs) sb s
noncomputable def LK {s₀ sb : Shared} {L : Addr} {cs : List (Str × Addr)} {mb cmb : Str → Option Value} (_ : Fs s₀ L mb cs cmb sb) (hd it aw ha row : Value) (x : List Nat) (ps : List (List Nat)) (s : Shared) : Prop :=
  ∃ m cm t ag vs, Fs s₀ L m cs cm s ∧ m "header" = some hd ∧ m "items" = some it ∧ m "aware" = some aw ∧ cm "hands" = some ha ∧ cm "row" = some row ∧
    m "written" = some (.str (S x) t) ∧ m "again" = some (.ref ag) ∧ s.heap.IsList ag vs.toArray ∧ StrsAre vs (ps.map S) ∧ Up (Mx L cs) sb s

theorem inner_turn {prog : Program} {w : World} {A : Around} {s₀ sb s : Shared} {L fa ha : Addr} {cd hd it aw row : Value} {nm : Str} {o : Obj} {fd : FuncData} {body lb lc : List Stmt} {scope : Scope} {mb cmb : Str → Option Value} {d h : Nat}
    {tgt iter tgt2 iter2 : Expr} {p1 p2 : Pos} {x : List Nat} {ps : List (List Nat)} {tk : Tok}
    (h1 : (K1 w).lookup 95 = some o) (h2 : o.data = .func fd) (h3 : fd.body = .stmts body) (h4 : fd.scope = scope) (h5 : body[6]? = some (.For tgt iter lb [] p1)) (h6 : lb[1]? = some (.For tgt2 iter2 lc [] p2))
    (G : Gd (K1 w) s₀.heap) (hA : Ok A (d + 2)) (hh5 : h < 5) (hx : x.length ≤ 100000) (hps : ∀ p ∈ ps, p.length ≤ 100000) (hpl : ps.length ≤ 100000)
    (Fb : Fs s₀ L mb (cellsFrom (L + 1) scope.names []) cmb sb) (hh : sb.heap.IsList ha handsV.toArray)
    (J : LK Fb hd it aw (.ref ha) row x ps s) :
    wpAny (model prog w) A (assign tgt2 (envOfC nm scope L fa cd) (.int (h : Int) tk)) (fun _ s₂ => wpAny (model prog w) A (execs lc (envOfC nm scope L fa cd)) (fun f s₃ => match f with
      | .next | .cont => LK Fb hd it aw (.ref ha) row (x.flatMap (spell (tabs.getD h []))) (ps.map fun p => p.flatMap (spell (tabs.getD h []))) s₃ ∧ Up (Mx L (cellsFrom (L + 1) scope.names [])) s s₃ | .brk => False | .ret v => False) (fun _ _ => False) s₂) (fun _ _ => False) s := by
  obtain rfl := Option.some.inj ((show (K1 w).lookup 95 = some _ by rfl).symm.trans h1)
  cases h2
  cases h3
  dsimp only at h4
  subst h4
  cases h5
  cases h6
  obtain ⟨m, cm, t, ag, vs, F, m1, m2, m3, c1, c2, m4, m5, hag, hvs, U⟩ := J
  refine wpAny_assign_Name ?_
  refine stC F (by rfl) fun s₁ F₁ u₁ => ?_
  have hag₁ := IL.up hag F u₁
  have U₁ := U.trans u₁
  refine wpAny_execs_cons ?_
  refine asg2t F₁ ?_
  refine Tuple_ ?_
  refine args_cons ?_
  refine Call_ ?_
  refine Subscript_ ?_
  refine nmC F₁ (by rfl) (v := .ref ha) (Upd.miss (by decide) c1) ?_
  refine nmC F₁ (by rfl) (v := .int (h : Int) tk) Upd.hit ?_
  have hh₁ := IL.up hh Fb U₁
  refine at_idx hh₁ (hands_at hh5) (by omega) ?_
  have G₁ : Gd (K1 w) s₁.heap := G.h fun b o e => F₁.base.keep b o e
  obtain ⟨fo, ffd, hfo, hfd⟩ := hand_obj G₁ hh5
  refine gcall hfo hfd ?_
  refine args_cons ?_
  refine nmL F₁ m4 ?_
  refine args_nil ⟨Kp.rfl', ?_⟩
  refine Qt.then (hand_spec G₁ hA hh5 hx) ?_
  rintro v s₂ ⟨t2, rfl⟩ k₂
  refine args_cons ?_
  have F₂ := F₁.k k₂
  have hag₂ := IL.k hag₁ k₂
  have hvl : vs.length = ps.length := by rw [hvs.length, List.length_map]
  have cH := F₂.cl (n := "hands") (v := .ref ha) (Upd.miss (by decide) c1)
  have cK := F₂.cl (n := "k") (v := .int (h : Int) tk) Upd.hit
  have hh₂ := IL.k hh₁ k₂
  have G₂ := G₁.k k₂
  refine c_comp (n := vs.length) (P := fun i v => vs[i]? = some v) (Y := [ag]) (fun _ => true) (ToS (fun p => p.flatMap (spell (tabs.getD h [])))) hA.1 (by rw [sizeLine_eq]; omega) ?_ ?_ ?_ ?_
  · exact nmL F₂ m5 ⟨src_list hag₂, Kp.rfl'⟩
  · intro C j v s₃ m₃ hP hns hm hk
    exact q_notest (v := v) rfl
  · intro C j v s₃ m₃ hP _ hns hm hk
    obtain ⟨y, ty, rfl, hy, _⟩ := strs_at hvs hP
    have G₃ : Gd (K1 w) s₃.heap := G₂.h hk.1
    refine Call_ ?_
    refine Subscript_ ?_
    refine nmX (cH.keeps hk.1) ?_
    refine nmX (cK.keeps hk.1) ?_
    refine at_idx (hh₂.at fun o e => hk.1 _ _ e) (hands_at hh5) (by omega) ?_
    refine gcall (hk.1 _ _ (k₂.keep _ _ hfo)) hfd ?_
    refine args_cons ?_
    refine nmN hns hm ?_
    refine args_nil ⟨Kp.rfl', ?_⟩
    refine (hand_spec G₃ hA hh5 (hps y hy)).mono ?_
    rintro v s' ⟨t', rfl⟩ _ x' t'' e
    cases e
    exact ⟨t', rfl⟩
  · rintro a s₃ ha₀ k₃ ⟨vs', ys, hpl', hvl', hvP, hpair⟩
    have e := same_items hvl' hvP
    subst e
    rw [filter_all] at hpair
    refine args_nil ?_
    refine Qt.then (q_newTuple (by rw [sizeLine_eq]; simp)) ?_
    rintro v s₄ ⟨aT, rfl, _, hT⟩ k₄
    have kk := (k₂.trans k₃).trans k₄
    refine ⟨_, _, kk, q_unpack2T hA.1 hT, fun s₅ F₅ u₅ => ?_⟩
    refine wpAny_execs_nil ?_
    have hy₅ := IL.up (IL.k hpl'.isList k₄) (F₁.k kk) u₅
    have u₆ := (Up.of kk).trans u₅
    have ms : ∀ {y : Str} {v : Value}, (y == "written") = false → (y == "again") = false → m y = some v → Upd (Upd m "again" (.ref a)) "written" (.str (S (x.flatMap (spell (tabs.getD h [])))) t2) y = some v :=
      fun h1 h2 h3 => Upd.miss h1 (Upd.miss h2 h3)
    exact ⟨⟨_, _, _, a, ys, F₅, ms (by decide) (by decide) m1, ms (by decide) (by decide) m2, ms (by decide) (by decide) m3, Upd.miss (by decide) c1, Upd.miss (by decide) c2, Upd.hit, Upd.miss (by decide) Upd.hit, hy₅, paired_strs hvs hpair, U₁.trans u₆⟩, u₁.trans u₆⟩
end Mine
end
section
open PySem PySem.W PyProof.Rows PySem.Calls
namespace Mine
section
variable {prog : Program} {w : World} {A : Around} {E : Value → Shared → Prop} {s : Shared} {env : Env}
theorem cstr {y : Str} {k : Nat} {pos : Pos} {Q : Value → Shared → Prop} (x : List Nat) (h : Q (.str (S x) s.toks) { s with toks := s.toks + 1 }) (hy : y = S x := by decide +kernel) :
    wpAny (model prog w) A (eval (.Constant (.str y) k pos) env) Q E s := by subst hy; exact Constant_str h
theorem q_stripC {x cs : List Nat} {t u : Tok} (h : x.length ≤ 16777216) : Qt prog w A (call (.builtin "str.strip") [.str (S x) t, .str (S cs) u]) (fun v _ => ∃ t', v = .str (S (stripL (fun d => cs.contains d) x)) t') s :=
  Qt.mk (SC.stripChars (fun t' _ => ⟨⟨t', by rw [stripChars_S]⟩, keeps_tok⟩) (by rw [S_len, sizeLine_eq]; exact h))
end
theorem filledL_le (ps : List (List Nat)) : (filledL ps).length ≤ ps.length := by
  unfold filledL; split
  · simp
  · exact Nat.le_refl _
theorem parts_len {hs l : List Nat} : (∀ p ∈ partsL hs l, p.length ≤ l.length) ∧ (partsL hs l).length ≤ l.length + 1 := by
  unfold partsL
  split
  · exact ⟨parseR_items l, parseR_length l⟩
  · exact ⟨fun p hp => (splitL_len 44 l).2 p (filledL_mem hp), Nat.le_trans (filledL_le _) (splitL_len 44 l).1⟩
/-- what a comprehension makes of texts, a bool each -/
noncomputable def ToB (f : List Nat → Bool) (v y : Value) : Prop := ∀ x t, v = .str (S x) t → y = .bool (f x)
theorem paired_bools {f : List Nat → Bool} {vs ys : List Value} {ps : List (List Nat)} (h : StrsAre vs (ps.map S)) (hp : Paired (ToB f) vs ys) :
    ys.length = (ps.map f).length ∧ ∀ (i : Nat) v, ys[i]? = some v → ∃ b, (ps.map f)[i]? = some b ∧ v = .bool b := by
  induction hp generalizing ps with
  | nil => cases ps with
    | nil => exact ⟨rfl, by simp⟩
    | cons p r => cases h
  | cons hab _ ih =>
    cases ps with
    | nil => cases h
    | cons p r =>
      cases h with
      | cons y t h =>
        obtain ⟨h1, h2⟩ := ih h
        refine ⟨by simpa using h1, fun i v hv => ?_⟩
        cases i with
        | zero => simp at hv; subst hv; exact ⟨f p, by simp, hab p t rfl⟩
        | succ i => simpa using h2 i v (by simpa using hv)
noncomputable def signP (f : List Nat → Bool) (v : Value) : Bool := match v with | .str x _ => f x.cps.toList | _ => false

theorem row_tail {prog : Program} {w : World} {A : Around} {s₀ sb s : Shared} {L fa ha it aw rb : Addr} {cd : Value} {nm : Str} {o : Obj} {fd : FuncData} {body lb rest : List Stmt} {scope : Scope} {mb cmb : Str → Option Value} {d : Nat}
    {tgt iter : Expr} {p1 : Pos} {l hs : List Nat} {th : Tok} {wvs rvs : List Value}
    (h1 : (K1 w).lookup 95 = some o) (h2 : o.data = .func fd) (h3 : fd.body = .stmts body) (h4 : fd.scope = scope) (h5 : body[6]? = some (.For tgt iter lb [] p1)) (h6 : lb.drop 2 = rest)
    (G : Gd (K1 w) s₀.heap) (hA : Ok A (d + 2)) (hl : ∀ c ∈ l, c ∈ Al) (hlen : l.length ≤ 100)
    (Fb : Fs s₀ L mb (cellsFrom (L + 1) scope.names []) cmb sb)
    (haw : sb.heap.IsList aw wvs.toArray) (hws : StrsAre wvs ((parseR l).map S))
    (hr : hs ∈ rowsAll) (hrb : sb.heap.IsList rb rvs.toArray) (hri : IntsAre rvs (hs.map Int.ofNat))
    (J : LK Fb (.str (S l) th) (.ref it) (.ref aw) (.ref ha) (.ref rb) (spellRow hs l) ((parseL l).map (spellRow hs)) s) :
    wpAny (model prog w) A (execs rest (envOfC nm scope L fa cd)) (fun f s₃ => f = .next ∧ LJ Fb (.str (S l) th) (.ref it) (.ref aw) (.ref ha) s₃ ∧ Up (Mx L (cellsFrom (L + 1) scope.names [])) s s₃) (fun _ _ => False) s := by
  obtain rfl := Option.some.inj ((show (K1 w).lookup 95 = some _ by rfl).symm.trans h1)
  cases h2
  cases h3
  dsimp only at h4
  subst h4
  cases h5
  subst h6
  obtain ⟨m, cm, t, ag, vs, F, m1, m2, m3, c1, c2, m4, m5, hag, hvs, U⟩ := J
  obtain ⟨hs2, hs5⟩ := rows_small hs hr
  have hsl : ∀ x : List Nat, (spellRow hs x).length ≤ 36 * x.length := fun x => spellRow_le hs2
  have G' : Gd (K1 w) s.heap := G.h fun b o e => F.base.keep b o e
  have cR := F.cl (n := "row") (v := .ref rb) c2
  have hrb' := IL.up hrb Fb U
  have haw' := IL.up haw Fb U
  -- table = {..}
  refine wpAny_execs_cons ?_
  refine wpAny_Assign_Name ?_
  refine c_dict (l := alls) (spellRow hs) hA.1 (by decide) ?_ ?_ ?_ G'.lim
  · refine cstr alls ?_
    have := src_str (prog := prog) (w := w) (s := { s with toks := s.toks + 1 }) (x := S alls) (t := s.toks)
    exact ⟨this, Kp.tok (Nat.le_succ _)⟩
  · intro C c t s₃ m₃ hns hm hk
    have G₃ : Gd (K1 w) s₃.heap := G'.h hk
    refine Call_ ?_
    refine nmK (v := .ref 90) G₃ (by kernel_rfl) ?_
    refine gcall (G₃.K 90 _ (by rfl)) rfl ?_
    refine args_cons ?_
    refine nmX (cR.keeps hk) ?_
    refine args_cons ?_
    refine nmN hns hm ?_
    refine args_nil ⟨Kp.rfl', ?_⟩
    exact spelled_spec (d := d + 1) G₃ hA (hrb'.at fun o e => hk _ _ e) hri hs5 hs2
  intro td s₁ htd k₁ D
  refine stC (F.k k₁) (by rfl) fun s₂ F₂ u₂ => ?_
  have tdM : ¬ Mx L (cellsFrom (L + 1) _ []) td := fun hx => by obtain ⟨o, e⟩ := F.has hx; rw [htd] at e; cases e
  have D₂ := D.up tdM u₂
  have haw₂ := IL.up (IL.k haw' k₁) (F.k k₁) u₂
  have hag₂ := IL.up (IL.k hag k₁) (F.k k₁) u₂
  have U₂ := (U.trans (Up.of k₁)).trans u₂
  have V₂ := (Up.of (X := Mx L (cellsFrom (L + 1) _ [])) k₁).trans u₂
  have G₂ := G.h fun b o e => F₂.base.keep b o e
  clear D hrb' haw' cR G' hag
  -- parts
  refine wpAny_execs_cons ?_
  refine wpAny_Assign_Name ?_
  refine Qt.then (V := fun v s' => ∃ a vs, v = .ref a ∧ s'.heap.IsList a vs.toArray ∧ StrsAre vs ((partsL hs l).map S)) ?_ ?_
  · refine IfExp_ ?_
    refine wpAny_isTrue_Compare1 ?_
    refine Subscript_ ?_
    refine nmC F₂ (by rfl) (v := .ref td) Upd.hit ?_
    refine cstr [34] ?_
    refine at_key (x := [34]) (D₂.h (s' := { s₂ with toks := s₂.toks + 1 }) fun _ _ e => e) (by decide) ?_
    intro t'
    refine cstr [34] ?_
    refine eq_S ?_
    refine wpAny_truthy_bool ?_
    have k₃ : Kp s₂ { s₂ with toks := s₂.toks + 1 + 1 + 1 } := Kp.tok (by omega)
    by_cases hq : gr hs 34 = [34]
    · rw [show decide (spellRow hs [34] = [34]) = true from decide_eq_true hq]
      refine nmL (F₂.k k₃) m3 ⟨⟨aw, wvs, rfl, haw₂, ?_⟩, k₃⟩
      unfold partsL; rw [if_pos hq]; exact hws
    · rw [show decide (spellRow hs [34] = [34]) = false from decide_eq_false hq]
      refine Call_ ?_
      refine nmK (v := .ref 73) (G₂.k k₃) (by kernel_rfl) ?_
      refine gcall ((G₂.k k₃).K 73 _ (by rfl)) rfl ?_
      refine args_cons ?_
      refine mc1 ?_
      refine nmL (F₂.k k₃) m1 ?_
      refine onStr PySem.F.slot_str_split PySem.F.type_str_split ?_
      refine cw1 ?_
      refine cstr [44] ?_
      refine Qt.then (q_split (by omega)) ?_
      rintro v s₄ ⟨a4, vs4, rfl, hl4, hs4⟩ k₄
      have k₅ := k₃.trans ((Kp.tok (Nat.le_succ _)).trans k₄)
      refine args_nil ⟨(Kp.tok (Nat.le_succ _)).trans k₄, ?_⟩
      refine Qt.then (filled_spec (G₂.k k₅) hA hl4 hs4 (splitL_ne 44 l) (by have := (splitL_len 44 l).1; omega)) ?_
      rintro v s₆ ⟨a6, vs6, rfl, hl6, hs6⟩ k₆
      refine ⟨⟨a6, vs6, rfl, hl6, ?_⟩, k₅.trans k₆⟩
      unfold partsL; rw [if_neg hq]; exact hs6
  rintro v s₃ ⟨pa, pvs, rfl, hp, hps⟩ k₃
  refine stL (F₂.k k₃) fun s₄ F₄ u₄ => ?_
  have D₄ := (D₂.h k₃.keep).up tdM u₄
  have haw₄ := IL.up (IL.k haw₂ k₃) (F₂.k k₃) u₄
  have hag₄ := IL.up (IL.k hag₂ k₃) (F₂.k k₃) u₄
  have hp₄ := IL.up hp (F₂.k k₃) u₄
  have U₄ := (U₂.trans (Up.of k₃)).trans u₄
  have V₄ := (V₂.trans (Up.of k₃)).trans u₄
  obtain ⟨pl1, pl2⟩ := parts_len (hs := hs) (l := l)
  have hpvl : pvs.length = (partsL hs l).length := by rw [hps.length, List.length_map]
  clear D₂ haw₂ hag₂ hp U₂ V₂ G₂
  -- told
  have cT := F₄.cl (n := "table") (v := .ref td) Upd.hit
  refine wpAny_execs_cons ?_
  refine st_comp (n := pvs.length) (P := fun i v => pvs[i]? = some v) (Y := [pa]) (fun _ => true) (ToS (fun p => stripL Unicode.isSpace (spellRow hs p))) hA.1 (by rw [sizeLine_eq]; omega) F₄ ?_ ?_ ?_ ?_
  · exact nmL F₄ (v := .ref pa) Upd.hit ⟨src_list hp₄, Kp.rfl'⟩
  · intro C j v s₅ m₅ hP hns hm hk
    exact q_notest (v := v) rfl
  · intro C j v s₅ m₅ hP _ hns hm hk
    obtain ⟨p, tp, rfl, hpm, _⟩ := strs_at hps hP
    have hpl := pl1 p hpm
    have D₅ := D₄.h hk.1
    refine mc0 ?_
    refine mc1 ?_
    refine cstr [] ?_
    refine onStr PySem.F.slot_str_join PySem.F.type_str_join ?_
    refine cw1 ?_
    have kp : Kp s₅ { s₅ with toks := s₅.toks + 1 } := Kp.tok (Nat.le_succ _)
    refine c_comp (n := (S p).cps.size) (P := SignAt (S p)) (Y := []) (fun _ => true) (ToS (fun x => x.flatMap (gr hs))) hA.1 (by rw [sizeLine_eq]; simp; omega) ?_ ?_ ?_ ?_
    · exact nmN (s := { s₅ with toks := s₅.toks + 1 }) hns hm ⟨src_str, Kp.rfl'⟩
    · intro C' j' v s₆ m₆ hP' hns' hm' hk'
      exact q_notest (v := v) rfl
    · intro C' j' v s₆ m₆ hP' _ hns' hm' hk'
      obtain ⟨c', u', _, rfl⟩ := hP'
      have D₆ := D₅.h (s' := s₆) hk'.1
      have cT₆ := (cT.keeps hk.1).keeps hk'.1
      refine mc2 ?_
      refine nmX cT₆ ?_
      refine onDict PySem.F.slot_dict_get PySem.F.type_dict_get D₆ ?_
      refine cw2 ?_
      refine nmN hns' hm' ?_
      refine nmN hns' hm' ?_
      refine get_key (x := [c']) D₆ ?_
      intro t'
      refine ⟨?_, Kp.tok (Nat.le_succ _)⟩
      intro x t'' e
      cases e
      exact ⟨t', by rw [table_get hr]; simp⟩
    · rintro a5 s₆ ha5 k₆ ⟨vs', ys, hpl', hvl', hvP, hpair⟩
      rw [filter_all] at hpair
      have hys := strs_ptext (l := p) (gr hs) (by simpa using hvl') hvP hpair
      have hfl : (p.map (gr hs)).flatten = spellRow hs p := by rw [spellRow_flat, List.flatMap_def]
      have h36 := hsl p
      refine Qt.then (q_join hpl'.isList hys (by rw [hfl]; omega)) ?_
      rintro v s₇ ⟨t7, rfl⟩ k₇
      rw [hfl]
      refine onStr PySem.F.slot_str_strip PySem.F.type_str_strip ?_
      refine cw0 ?_
      refine Qt.then (q_strip (by omega)) ?_
      rintro v s₈ ⟨t8, rfl⟩ k₈
      refine ⟨?_, ((kp.trans k₆).trans k₇).trans k₈⟩
      intro x t'' e
      cases e
      exact ⟨t8, rfl⟩
  rintro ta s₅ F₅ u₅ hta ⟨vs5, tvs, htp, hvl5, hvP5, hpair5⟩
  have e5 := same_items hvl5 hvP5
  rw [e5, filter_all] at hpair5
  have htv : StrsAre tvs ((toldL hs l).map S) := paired_strs hps hpair5
  have D₅ := D₄.up tdM u₅
  have haw₅ := IL.up haw₄ F₄ u₅
  have hag₅ := IL.up hag₄ F₄ u₅
  have hp₅ := IL.up hp₄ F₄ u₅
  have U₅ := U₄.trans u₅
  have V₅ := V₄.trans u₅
  clear D₄ haw₄ hag₄ hp₄ U₄ V₄ cT hpair5
  -- bare
  have cT := F₅.cl (n := "table") (v := .ref td) Upd.hit
  refine wpAny_execs_cons ?_
  refine wpAny_Assign_Name ?_
  refine Qt.then (V := fun v s' => ∃ t, v = .str (S (bareL hs)) t) ?_ ?_
  · refine wpAny_BinOp ?_
    refine cstr [32] ?_
    refine mc1 ?_
    refine cstr [] ?_
    refine onStr PySem.F.slot_str_join PySem.F.type_str_join ?_
    refine cw1 ?_
    have k₆ : Kp s₅ { s₅ with toks := s₅.toks + 1 + 1 } := Kp.tok (by omega)
    refine c_comp (n := (S [13, 10, 9]).cps.size) (P := SignAt (S [13, 10, 9])) (Y := []) (signP fun x => decide (spellRow hs x = x)) (ToS id) hA.1 (by rw [sizeLine_eq]; simp) ?_ ?_ ?_ ?_
    · refine cstr [13, 10, 9] ?_
      exact ⟨src_str, Kp.tok (Nat.le_succ _)⟩
    · rintro C j v s₆ m₆ ⟨c', u', hc', rfl⟩ hns hm hk
      have hcm : c' ∈ alls := by
        have : c' ∈ [13, 10, 9] := List.mem_of_getElem? (i := j) (by simpa using hc')
        exact (show ∀ c ∈ [13, 10, 9], c ∈ alls by decide) c' this
      have D₆ := D₅.h (s' := s₆) fun b o e => hk.1 b o (k₆.keep b o e)
      refine wpAny_tests_one ?_
      refine wpAny_isTrue_Compare1 ?_
      refine Subscript_ ?_
      refine nmX (cT.keeps fun b o e => hk.1 b o (k₆.keep b o e)) ?_
      refine nmN hns hm ?_
      refine at_key (x := [c']) D₆ (List.mem_map.mpr ⟨c', hcm, rfl⟩) ?_
      intro t'
      refine nmN (s := { s₆ with toks := s₆.toks + 1 }) hns hm ?_
      refine eq_S ?_
      refine wpAny_truthy_bool ?_
      exact ⟨rfl, Kp.tok (Nat.le_succ _)⟩
    · rintro C j v s₆ m₆ ⟨c', u', hc', rfl⟩ _ hns hm hk
      refine nmN hns hm ⟨?_, Kp.rfl'⟩
      intro x t'' e
      cases e
      exact ⟨u', rfl⟩
    · rintro a6 s₆ ha6 k₇ ⟨vs', ys, hpl', hvl', hvP, hpair⟩
      have hys := filter_signs (q := fun c => decide (gr hs c = [c])) (l := [13, 10, 9]) (by simpa using hvl') hvP (fun c t => rfl) hpair
      refine Qt.then (q_join hpl'.isList hys ?_) ?_
      · rw [flat_one]; exact Nat.le_trans (List.length_filter_le _ _) (by decide)
      rintro v s₇ ⟨t7, rfl⟩ k₈
      rw [flat_one]
      refine Qt.then (q_add (x := [32]) ?_) ?_
      · have := List.length_filter_le (fun c => decide (gr hs c = [c])) [13, 10, 9]
        simp at this ⊢; omega
      rintro v s₈ ⟨t8, rfl⟩ k₉
      exact ⟨⟨t8, rfl⟩, ((k₆.trans k₇).trans k₈).trans k₉⟩
  rintro v s₆ ⟨tb, rfl⟩ k₆
  refine stC (F₅.k k₆) (by rfl) fun s₇ F₇ u₇ => ?_
  have haw₇ := IL.up (IL.k haw₅ k₆) (F₅.k k₆) u₇
  have hag₇ := IL.up (IL.k hag₅ k₆) (F₅.k k₆) u₇
  have hp₇ := IL.up (IL.k hp₅ k₆) (F₅.k k₆) u₇
  have ht₇ := IL.up (IL.k htp.isList k₆) (F₅.k k₆) u₇
  have U₇ := (U₅.trans (Up.of k₆)).trans u₇
  have V₇ := (V₅.trans (Up.of k₆)).trans u₇
  have G₇ := G.h fun b o e => F₇.base.keep b o e
  clear D₅ haw₅ hag₅ hp₅ U₅ V₅ cT htp
  -- calm
  have cB := F₇.cl (n := "bare") (v := .str (S (bareL hs)) tb) Upd.hit
  refine wpAny_execs_cons ?_
  refine wpAny_Assign_Name ?_
  refine Qt.then (V := fun v s' => v = .bool (decide (partsL hs l = parseR l) && ((partsL hs l).map fun p => decide (stripL Unicode.isSpace p = stripL (fun d => (bareL hs).contains d) p)).all id)) ?_ ?_
  · refine BoolOp_and ?_
    refine wpAny_Compare1 ?_
    refine nmL F₇ (v := .ref pa) (Upd.miss (by decide) Upd.hit) ?_
    refine nmL F₇ (v := .ref aw) (Upd.miss (by decide) (Upd.miss (by decide) m3)) ?_
    refine eq_texts hp₇ haw₇ hps hws hA.units ?_
    refine wpAny_truthy_bool ?_
    by_cases hq : partsL hs l = parseR l
    · rw [show decide (partsL hs l = parseR l) = true from decide_eq_true hq]
      simp only [if_true, Bool.true_and]
      refine BoolOp_one ?_
      refine Call_ ?_
      refine nmKB (v := .builtin "all") G₇ (by kernel_rfl) boot_all ?_
      refine PyProof.Rows.callWith_builtin1 ?_
      refine args_cons ?_
      refine c_comp (n := pvs.length) (P := fun i v => pvs[i]? = some v) (Y := [pa]) (fun _ => true) (ToB (fun p => decide (stripL Unicode.isSpace p = stripL (fun d => (bareL hs).contains d) p))) hA.1 (by rw [sizeLine_eq]; omega) ?_ ?_ ?_ ?_
      · exact nmL F₇ (v := .ref pa) (Upd.miss (by decide) Upd.hit) ⟨src_list hp₇, Kp.rfl'⟩
      · intro C j v s₈ m₈ hP hns hm hk
        exact q_notest (v := v) rfl
      · intro C j v s₈ m₈ hP _ hns hm hk
        obtain ⟨p, tp, rfl, hpm, _⟩ := strs_at hps hP
        have hpl := pl1 p hpm
        refine wpAny_Compare1 ?_
        refine mc0 ?_
        refine nmN hns hm ?_
        refine onStr PySem.F.slot_str_strip PySem.F.type_str_strip ?_
        refine cw0 ?_
        refine Qt.then (q_strip (by omega)) ?_
        rintro v s₉ ⟨t9, rfl⟩ k₉
        refine mc1 ?_
        refine nmN (hns.keeps k₉.keep) hm ?_
        refine onStr PySem.F.slot_str_strip PySem.F.type_str_strip ?_
        refine cw1 ?_
        refine nmX ((cB.keeps hk.1).keeps k₉.keep) ?_
        refine Qt.then (q_stripC (by omega)) ?_
        rintro v sa ⟨t10, rfl⟩ ka
        refine eq_S ?_
        refine ⟨?_, k₉.trans ka⟩
        intro x t'' e
        cases e
        rfl
      · rintro a8 s₈ ha8 k₈ ⟨vs', ys, hpl', hvl', hvP, hpair⟩
        have e := same_items hvl' hvP
        subst e
        rw [filter_all] at hpair
        obtain ⟨b1, b2⟩ := paired_bools hps hpair
        refine args_nil ?_
        refine Qt.then (q_all hA.1 hpl'.isList b2 b1) ?_
        rintro v s₉ rfl k₉
        exact ⟨by trivial, k₈.trans k₉⟩
    · rw [show decide (partsL hs l = parseR l) = false from decide_eq_false hq]
      simp only [Bool.false_eq_true, if_false, Bool.false_and]
      exact ⟨by trivial, Kp.rfl'⟩
  rintro v s₈ rfl k₈
  have hcalm : (decide (partsL hs l = parseR l) && ((partsL hs l).map fun p => decide (stripL Unicode.isSpace p = stripL (fun d => (bareL hs).contains d) p)).all id) = decide ((parseL l).map (spellRow hs) = toldL hs l) := by
    rw [Bool.eq_iff_iff, decide_eq_true_iff, again_iff hr hl, Bool.and_eq_true, decide_eq_true_iff, List.all_map, List.all_eq_true]
    refine and_congr Iff.rfl (forall_congr' fun p => imp_congr Iff.rfl ?_)
    exact decide_eq_true_iff
  rw [hcalm]
  refine stL (F₇.k k₈) fun s₉ F₉ u₉ => ?_
  have haw₉ := IL.up (IL.k haw₇ k₈) (F₇.k k₈) u₉
  have hag₉ := IL.up (IL.k hag₇ k₈) (F₇.k k₈) u₉
  have ht₉ := IL.up (IL.k ht₇ k₈) (F₇.k k₈) u₉
  have U₉ := (U₇.trans (Up.of k₈)).trans u₉
  have V₉ := (V₇.trans (Up.of k₈)).trans u₉
  have G₉ := G.h fun b o e => F₉.base.keep b o e
  clear haw₇ hag₇ ht₇ hp₇ U₇ V₇ G₇ cB
  -- the last if
  refine wpAny_execs_cons ?_
  refine wpAny_If ?_
  refine isTrue_or ?_
  refine wpAny_isTrue_Compare1 ?_
  refine Call_ ?_
  refine nmK (v := .ref 19) G₉ (by kernel_rfl) ?_
  refine gcall (G₉.K 19 _ (by rfl)) rfl ?_
  refine args_cons ?_
  refine nmL F₉ (v := .str (S (spellRow hs l)) t) (Upd.miss (by decide) (Upd.miss (by decide) (Upd.miss (by decide) m4))) ?_
  refine args_nil ⟨Kp.rfl', ?_⟩
  have h36 := hsl l
  refine Qt.then (parse_spec G₉ hA (by omega)) ?_
  rintro v sa ⟨aP, vP, rfl, _, hPl, hPs⟩ ka
  have Fa := F₉.k ka
  refine nmL Fa (v := .ref ta) (Upd.miss (by decide) Upd.hit) ?_
  refine ne_texts hPl.isList (IL.k ht₉ ka) hPs htv hA.units ?_
  rw [decide_eq_true (told_is hr hl)]
  refine wpAny_truthy_bool ?_
  simp only [Bool.not_true, Bool.false_eq_true, if_false]
  refine isTrue_or ?_
  refine wpAny_isTrue_Compare1 ?_
  refine wpAny_Compare1 ?_
  refine nmL Fa (v := .ref ag) (Upd.miss (by decide) (Upd.miss (by decide) (Upd.miss (by decide) m5))) ?_
  refine nmL Fa (v := .ref ta) (Upd.miss (by decide) Upd.hit) ?_
  refine eq_texts (IL.k hag₉ ka) (IL.k ht₉ ka) hvs htv hA.units ?_
  refine nmL Fa (v := .bool (decide ((parseL l).map (spellRow hs) = toldL hs l))) Upd.hit ?_
  refine ne_bools ?_
  refine wpAny_truthy_bool ?_
  rw [bne_self_eq_false]
  simp only [Bool.false_eq_true, if_false]
  refine isTrue_or_nil ?_
  simp only [Bool.false_eq_true, if_false]
  refine wpAny_execs_nil ?_
  refine wpAny_execs_nil ?_
  have ms : ∀ {y : Str} {v : Value}, (y == "parts") = false → (y == "told") = false → (y == "calm") = false → m y = some v → Upd (Upd (Upd m "parts" (.ref pa)) "told" (.ref ta)) "calm" (.bool (decide ((parseL l).map (spellRow hs) = toldL hs l))) y = some v :=
    fun h1 h2 h3 h4 => Upd.miss h3 (Upd.miss h2 (Upd.miss h1 h4))
  exact ⟨rfl, ⟨_, _, Fa, ms (by decide) (by decide) (by decide) m1, ms (by decide) (by decide) (by decide) m2, ms (by decide) (by decide) (by decide) m3, Upd.miss (by decide) (Upd.miss (by decide) c1), U₉.trans (Up.of ka)⟩, V₉.trans (Up.of ka)⟩
end Mine
end
section
open PySem PySem.W PyProof.Rows PySem.Calls
namespace Mine
theorem Fs.none_up {s₀ sb s : Shared} {L I : Addr} {m cm : Str → Option Value} {cs : List (Str × Addr)} (Fb : Fs s₀ L m cs cm s) (u : Up (Mx L cs) sb s) (h : s.heap.get? I = none) : sb.heap.get? I = none := by
  cases e : sb.heap.get? I with
  | none => rfl
  | some o =>
    have : ¬ Mx L cs I := fun hx => by obtain ⟨o, e⟩ := Fb.has hx; rw [h] at e; cases e
    have := u.2.1 I o this e
    rw [h] at this; cases this
theorem spellRow_snoc (hs : List Nat) (h : Nat) (l : List Nat) : spellRow (hs ++ [h]) l = (spellRow hs l).flatMap (spell (tabs.getD h [])) := by
  unfold spellRow
  rw [List.foldl_append]; rfl
theorem row_turn {prog : Program} {w : World} {A : Around} {s₀ sb s : Shared} {L fa ha it aw rb : Addr} {cd : Value} {nm : Str} {o : Obj} {fd : FuncData} {body lb : List Stmt} {scope : Scope} {mb cmb : Str → Option Value} {d : Nat}
    {tgt iter : Expr} {p1 : Pos} {l hs : List Nat} {th : Tok} {wvs ivs rvs : List Value}
    (h1 : (K1 w).lookup 95 = some o) (h2 : o.data = .func fd) (h3 : fd.body = .stmts body) (h4 : fd.scope = scope) (h5 : body[6]? = some (.For tgt iter lb [] p1))
    (G : Gd (K1 w) s₀.heap) (hA : Ok A (d + 2)) (hl : ∀ c ∈ l, c ∈ Al) (hlen : l.length ≤ 100)
    (Fb : Fs s₀ L mb (cellsFrom (L + 1) scope.names []) cmb sb) (hh : sb.heap.IsList ha handsV.toArray)
    (hit : sb.heap.IsList it ivs.toArray) (his : StrsAre ivs ((parseL l).map S))
    (haw : sb.heap.IsList aw wvs.toArray) (hws : StrsAre wvs ((parseR l).map S))
    (hr : hs ∈ rowsAll) (hrb : sb.heap.IsList rb rvs.toArray) (hri : IntsAre rvs (hs.map Int.ofNat))
    (J : LJ Fb (.str (S l) th) (.ref it) (.ref aw) (.ref ha) s) :
    wpAny (model prog w) A (assign tgt (envOfC nm scope L fa cd) (.ref rb)) (fun _ s₂ => wpAny (model prog w) A (execs lb (envOfC nm scope L fa cd)) (fun f s₃ =>
      f = .next ∧ LJ Fb (.str (S l) th) (.ref it) (.ref aw) (.ref ha) s₃ ∧ Up (Mx L (cellsFrom (L + 1) scope.names [])) s s₃) (fun _ _ => False) s₂) (fun _ _ => False) s := by
  have tail := @row_tail prog w A s₀ sb
  have turn := @inner_turn prog w A s₀ sb
  have h1' := h1
  obtain rfl := Option.some.inj ((show (K1 w).lookup 95 = some _ by rfl).symm.trans h1)
  have h2' := h2
  cases h2
  have h3' := h3
  cases h3
  dsimp only at h4
  have h4' := h4
  subst h4
  have h5' := h5
  cases h5
  obtain ⟨m, cm, F, m1, m2, m3, c1, U⟩ := J
  obtain ⟨hs2, hs5⟩ := rows_small hs hr
  have hrl : rvs.length = hs.length := by rw [hri.length, List.length_map]
  refine wpAny_assign_Name ?_
  refine stC F (by rfl) fun s₁ F₁ u₁ => ?_
  refine wpAny_execs_cons ?_
  refine asg2t F₁ ?_
  refine Tuple_ ?_
  refine args_cons ?_
  refine nmL F₁ m1 ?_
  refine args_cons ?_
  refine nmL F₁ m2 ?_
  refine args_nil ?_
  refine Qt.then (q_newTuple (by rw [sizeLine_eq]; simp)) ?_
  rintro v s₂ ⟨aT, rfl, _, hT⟩ k₂
  refine ⟨_, _, k₂, q_unpack2T hA.1 hT, fun s₃ F₃ u₃ => ?_⟩
  have U₃ := (U.trans u₁).trans ((Up.of k₂).trans u₃)
  have V₃ := u₁.trans ((Up.of k₂).trans u₃)
  have hrb₃ := IL.up hrb Fb U₃
  refine wpAny_execs_cons ?_
  have ms : ∀ {y : Str} {v : Value}, (y == "written") = false → (y == "again") = false → m y = some v → Upd (Upd m "again" (.ref it)) "written" (.str (S l) th) y = some v :=
    fun h1 h2 h3 => Upd.miss h1 (Upd.miss h2 h3)
  refine st_for (n := rvs.length) (P := fun i v => rvs[i]? = some v) (Y := [rb]) hA.1 Fb.X
    (fun i s' => LK Fb (.str (S l) th) (.ref it) (.ref aw) (.ref ha) (.ref rb) (spellRow (hs.take i) l) ((parseL l).map (spellRow (hs.take i))) s' ∧ Up Fb.X s s') ?_ ?_ ?_ ?_ ?_ ?_
  · exact nmC F₃ (by rfl) (v := .ref rb) Upd.hit ⟨src_list hrb₃, Kp.rfl'⟩
  · intro b hb
    refine ⟨?_, F₃.has hb⟩
    intro hm
    rw [List.mem_singleton.mp hm] at hb
    obtain ⟨o, ho, hc, n, hd⟩ := hrb₃
    exact F₃.off ho (by rw [hd]; intro _ _ q; cases q) (by rw [hd]; intro _ q; cases q) hb
  · intro s₄ k₄
    refine ⟨⟨_, _, th, it, ivs, F₃.k k₄, ms (by decide) (by decide) m1, ms (by decide) (by decide) m2, ms (by decide) (by decide) m3, Upd.miss (by decide) c1, Upd.hit, Upd.hit, Upd.miss (by decide) Upd.hit, IL.k (IL.up hit Fb U₃) k₄, ?_, U₃.trans (Up.of k₄)⟩, V₃.trans (Up.of k₄)⟩
    show StrsAre ivs (((parseL l).map (spellRow (hs.take 0))).map S)
    rw [List.take_zero, show (parseL l).map (spellRow []) = parseL l from List.map_id _]
    exact his
  · rintro I i sa sc hI ⟨⟨m', cm', t, ag, vs, F', n1, n2, n3, d1, d2, n4, n5, hag, hvs, U'⟩, V'⟩ hIt u
    have hsb := F₃.none_up U₃ hI
    have hss := F₃.none_up V₃ hI
    exact ⟨⟨m', cm', t, ag, vs, F'.it hIt (none_back Fb.base hsb) u, n1, n2, n3, d1, d2, n4, n5, IL.it hag hIt u, hvs, U'.itb hsb u⟩, V'.itb hss u⟩
  · rintro i v sa hin hv ⟨Ja, Va⟩
    obtain ⟨n, tn, rfl, hn⟩ := ints_at hri hv
    obtain ⟨h, hh', rfl⟩ : ∃ h, hs[i]? = some h ∧ n = Int.ofNat h := by
      rw [List.getElem?_map] at hn
      cases hq : hs[i]? with
      | none => rw [hq] at hn; cases hn
      | some h => rw [hq] at hn; cases hn; exact ⟨h, rfl, rfl⟩
    have h5'' := hs5 h (List.mem_of_getElem? hh')
    have e1 : hs.take (i + 1) = hs.take i ++ [h] := by rw [List.take_add_one, hh']; rfl
    have e2 : spellRow (hs.take (i + 1)) = fun l => (spellRow (hs.take i) l).flatMap (spell (tabs.getD h [])) := by rw [e1]; funext l; exact spellRow_snoc _ _ _
    have hlen36 : ∀ x : List Nat, (spellRow (hs.take i) x).length ≤ 36 * x.length := fun x => spellRow_le (by rw [List.length_take]; omega)
    have hP : ∀ p ∈ parseL l, p.length ≤ 100 := by
      intro p hp
      obtain ⟨q, hq, rfl⟩ := List.mem_map.mp hp
      exact Nat.le_trans (strip_len _ _) (Nat.le_trans (parseR_items l q hq) hlen)
    have T := turn (h := h) (x := spellRow (hs.take i) l) (ps := (parseL l).map (spellRow (hs.take i))) (tk := tn) (cd := cd) (nm := nm) (fa := fa) h1' h2' h3' h4' h5' rfl G hA h5'' (by have := hlen36 l; omega)
      (by intro p hp; obtain ⟨q, hq, rfl⟩ := List.mem_map.mp hp; have := hlen36 q; have := hP q hq; omega)
      (by rw [List.length_map]; unfold parseL; rw [List.length_map]; have := parseR_length l; omega) Fb hh Ja
    refine wpAny_mono T (fun _ s₄ h₄ => wpAny_mono h₄ (fun f s₅ h₅ => ?_) fun _ _ x => x) fun _ _ x => x
    rw [e2]
    cases f with
    | next =>
      obtain ⟨a, b⟩ := h₅
      rw [List.map_map] at a
      exact ⟨⟨a, Va.trans b⟩, b⟩
    | cont =>
      obtain ⟨a, b⟩ := h₅
      rw [List.map_map] at a
      exact ⟨⟨a, Va.trans b⟩, b⟩
    | brk => exact h₅.elim
    | ret v => exact h₅.elim
  · rintro sa ⟨Ja, Va⟩
    rw [hrl, List.take_length] at Ja
    refine wpAny_mono (tail (hs := hs) (cd := cd) (nm := nm) (fa := fa) h1' h2' h3' h4' h5' rfl G hA hl hlen Fb haw hws hr hrb hri Ja) (fun f s₄ h₄ => ?_) fun _ _ x => x
    exact ⟨h₄.1, h₄.2.1, Va.trans h₄.2.2⟩
end Mine
end
section
open PySem PySem.W PyProof.Rows PySem.Calls
namespace Mine
/-- a row of hands -/
noncomputable def RowOk (s : Shared) (v : Value) : Prop := ∃ b vs hs, v = .ref b ∧ hs ∈ rowsAll ∧ s.heap.IsList b vs.toArray ∧ IntsAre vs (hs.map Int.ofNat)
theorem RowOk.k {s s' : Shared} {v : Value} (r : RowOk s v) (k : Kp s s') : RowOk s' v := let ⟨b, vs, hs, e, hr, hl, hi⟩ := r; ⟨b, vs, hs, e, hr, IL.k hl k, hi⟩
section
variable {prog : Program} {w : World} {A : Around} {s : Shared} {env : Env}
theorem q_one {n : Int} {k : Nat} {p p' : Pos} (h : Nat) (hn : n = Int.ofNat h := by rfl) (h5 : [h] ∈ rowsAll := by decide +kernel) : Qt prog w A (eval (.List [.Constant (.int n) k p] p') env) (fun v s' => RowOk s' v) s := by
  subst hn
  refine List_ ?_
  refine args_cons ?_
  refine wpAny_Constant_int ?_
  refine args_nil ?_
  refine Qt.then (q_newList (by rw [sizeLine_eq]; simp)) ?_
  rintro v s₂ ⟨a, rfl, _, hp⟩ k
  exact ⟨⟨a, _, [h], rfl, h5, hp.isList, .cons _ _ .nil⟩, (Kp.tok (Nat.le_succ _)).trans k⟩
end
theorem pair_row (n : Int) : ∃ h k : Nat, n.fmod 5 = Int.ofNat h ∧ (n.fdiv 5).fmod 5 = Int.ofNat k ∧ [h, k] ∈ rowsAll := by
  have a0 := Int.fmod_nonneg_of_pos n (b := 5) (by omega)
  have a1 := Int.fmod_lt_of_pos n (b := 5) (by omega)
  have b0 := Int.fmod_nonneg_of_pos (n.fdiv 5) (b := 5) (by omega)
  have b1 := Int.fmod_lt_of_pos (n.fdiv 5) (b := 5) (by omega)
  refine ⟨(n.fmod 5).toNat, ((n.fdiv 5).fmod 5).toNat, (Int.toNat_of_nonneg a0).symm, (Int.toNat_of_nonneg b0).symm, ?_⟩
  have key : ∀ h < 5, ∀ k < 5, [h, k] ∈ rowsAll := by decide +kernel
  exact key _ (by omega) _ (by omega)

theorem law_body {prog : Program} {w : World} {A : Around} {s₀ s : Shared} {L fa a : Addr} {cd : Value} {nm : Str} {o : Obj} {fd : FuncData} {body : List Stmt} {scope : Scope} {m cm : Str → Option Value} {vs : List Value} {ns : List Int} {d : Nat}
    (h1 : (K1 w).lookup 95 = some o) (h2 : o.data = .func fd) (h3 : fd.body = .stmts body) (h4 : fd.scope = scope)
    (G : Gd (K1 w) s₀.heap) (hA : Ok A (d + 2)) (hl : s₀.heap.IsList a vs.toArray) (hi : IntsAre vs ns) (h63 : ns.length ≤ 63)
    (F : Fs s₀ L m (cellsFrom (L + 1) scope.names []) cm s) (hm : m "script" = some (.ref a)) :
    wpAny (model prog w) A (execs body (envOfC nm scope L fa cd)) (fun f s' => f = .ret (.bool true) ∧ Kp s₀ s') (fun _ _ => False) s := by
  have row_turn := @row_turn prog w A s₀
  have h1' := h1
  obtain rfl := Option.some.inj ((show (K1 w).lookup 95 = some _ by rfl).symm.trans h1)
  have h2' := h2
  cases h2
  have h3' := h3
  cases h3
  dsimp only at h4
  have h4' := h4
  subst h4
  have hvl : vs.length = ns.length := by rw [hi.length]
  -- numbers = script[:10]
  refine wpAny_execs_cons ?_
  refine wpAny_Assign_Name ?_
  refine Qt.then (V := fun v s' => ∃ b, v = .ref b ∧ s'.heap.IsList b (vs.take 10).toArray) ?_ ?_
  · refine Subscript_ ?_
    refine nmL F hm ?_
    refine wpAny_Slice ?_
    refine evalPart_none_step ?_
    refine evalPart_some_step ?_
    refine wpAny_Constant_int ?_
    refine evalPart_none_step ?_
    have hls := hl.at fun o e => F.base.keep _ _ e
    refine slice_listK (s := { s with toks := s.toks + 1 }) (hls.at fun o e => e) .none (.int _ _) ?_ (hsz := by rw [List.size_toArray, sizeLine_eq]; omega)
    have e2 : slicePick vs.toArray none (some 10) none = (vs.take 10).toArray := by
      have := slicePick_upto' vs.toArray 10
      simpa using this
    have kn : Kp s { s with toks := s.toks + 1 } := Kp.tok (Nat.le_succ _)
    refine ⟨⟨_, rfl, ?_⟩, kn.trans ((Kp.push _).trans (Kp.push _))⟩
    rw [← e2]; exact isList_pushed2 _ _ _
  rintro v s₁ ⟨b, rfl, hb⟩ k₁
  refine stL (F.k k₁) fun s₂ F₂ u₂ => ?_
  have hb₂ := IL.up hb (F.k k₁) u₂
  have hib : IntsAre (vs.take 10) (ns.take 10) := hi.take 10
  have h10 : (ns.take 10).length ≤ 10 := by rw [List.length_take]; omega
  generalize vs.take 10 = us at hb₂ hib
  generalize ns.take 10 = ms at hib h10
  clear hb
  -- total = sum(numbers)
  refine wpAny_execs_cons ?_
  refine wpAny_Assign_Name ?_
  refine Call_ ?_
  have G₂ : Gd (K1 w) s₂.heap := G.h fun b o e => F₂.base.keep b o e
  refine nmKB (v := .builtin "sum") G₂ (by kernel_rfl) boot_sum ?_
  refine PyProof.Rows.callWith_builtin1 ?_
  refine args_cons ?_
  refine nmL F₂ (v := .ref b) Upd.hit ?_
  refine args_nil ?_
  refine Qt.then (q_sum hA.1 hb₂ hib) ?_
  rintro v s₃ ⟨tt, rfl⟩ k₃
  refine stL (F₂.k k₃) fun s₄ F₄ u₄ => ?_
  have hb₄ := IL.up (IL.k hb₂ k₃) (F₂.k k₃) u₄
  have G₄ : Gd (K1 w) s₄.heap := G.h fun b o e => F₄.base.keep b o e
  -- header = _law_header(numbers)
  refine wpAny_execs_cons ?_
  refine wpAny_Assign_Name ?_
  refine Call_ ?_
  refine nmK (v := .ref 66) G₄ (by kernel_rfl) ?_
  refine gcall (G₄.K 66 _ (by rfl)) rfl ?_
  refine args_cons ?_
  refine nmL F₄ (v := .ref b) (Upd.miss (by decide) Upd.hit) ?_
  refine args_nil ⟨Kp.rfl', ?_⟩
  refine Qt.then (header_spec G₄ hA hb₄ hib h10) ?_
  rintro v s₅ ⟨l, th, rfl, hAl, hlen⟩ k₅
  refine stL (F₄.k k₅) fun s₆ F₆ u₆ => ?_
  have G₆ : Gd (K1 w) s₆.heap := G.h fun b o e => F₆.base.keep b o e
  -- hands = [..]
  refine wpAny_execs_cons ?_
  refine wpAny_Assign_Name ?_
  refine List_ ?_
  refine args_cons ?_
  refine nmK (v := .ref 33) G₆ (by kernel_rfl) ?_
  refine args_cons ?_
  refine nmK (v := .ref 40) G₆ (by kernel_rfl) ?_
  refine args_cons ?_
  refine nmK (v := .ref 47) G₆ (by kernel_rfl) ?_
  refine args_cons ?_
  refine nmK (v := .ref 54) G₆ (by kernel_rfl) ?_
  refine args_cons ?_
  refine nmK (v := .ref 61) G₆ (by kernel_rfl) ?_
  refine args_nil ?_
  refine Qt.then (q_newList (by rw [sizeLine_eq]; simp)) ?_
  rintro v s₇ ⟨ha, rfl, _, hh⟩ k₇
  refine stC (F₆.k k₇) (by rfl) fun s₈ F₈ u₈ => ?_
  have hh₈ := IL.up hh.isList (F₆.k k₇) u₈
  have G₈ : Gd (K1 w) s₈.heap := G.h fun b o e => F₈.base.keep b o e
  -- aware = _law_aware(header)
  refine wpAny_execs_cons ?_
  refine wpAny_Assign_Name ?_
  refine Call_ ?_
  refine nmK (v := .ref 78) G₈ (by kernel_rfl) ?_
  refine gcall (G₈.K 78 _ (by rfl)) rfl ?_
  refine args_cons ?_
  refine nmL F₈ (v := .str (S l) th) Upd.hit ?_
  refine args_nil ⟨Kp.rfl', ?_⟩
  have offA : ∀ c ∈ [1, 2, 3], c ∉ Al := by decide
  have off : ∀ c ∈ [1, 2, 3], c ∉ l := fun c hc hcl => offA c hc (hAl c hcl)
  refine Qt.then (aware_spec G₈ hA (by omega) (off 1 (by decide)) (off 2 (by decide)) (off 3 (by decide))) ?_
  rintro v s₉ ⟨aw, wvs, rfl, hw, hws⟩ k₉
  refine stL (F₈.k k₉) fun sa Fa ua => ?_
  have hha := IL.up (IL.k hh₈ k₉) (F₈.k k₉) ua
  have hwa := IL.up hw (F₈.k k₉) ua
  have Ga : Gd (K1 w) sa.heap := G.h fun b o e => Fa.base.keep b o e
  -- items = parse_http_list(header)
  refine wpAny_execs_cons ?_
  refine wpAny_Assign_Name ?_
  refine Call_ ?_
  refine nmK (v := .ref 19) Ga (by kernel_rfl) ?_
  refine gcall (Ga.K 19 _ (by rfl)) rfl ?_
  refine args_cons ?_
  refine nmL Fa (v := .str (S l) th) (Upd.miss (by decide) Upd.hit) ?_
  refine args_nil ⟨Kp.rfl', ?_⟩
  refine Qt.then (parse_spec Ga hA (by omega)) ?_
  rintro v sb ⟨it, ivs, rfl, _, hit, his⟩ kb
  refine stL (Fa.k kb) fun sc Fc uc => ?_
  have hhc := IL.up (IL.k hha kb) (Fa.k kb) uc
  have hwc := IL.up (IL.k hwa kb) (Fa.k kb) uc
  have hic := IL.up hit.isList (Fa.k kb) uc
  have Gc : Gd (K1 w) sc.heap := G.h fun b o e => Fc.base.keep b o e
  have mtot : (Upd (Upd (Upd (Upd (Upd m "numbers" (.ref b)) "total" (.int ms.sum tt)) "header" (.str (S l) th)) "aware" (.ref aw)) "items" (.ref it)) "total" = some (.int ms.sum tt) :=
    Upd.miss (by decide) (Upd.miss (by decide) (Upd.miss (by decide) Upd.hit))
  have mhd : (Upd (Upd (Upd (Upd (Upd m "numbers" (.ref b)) "total" (.int ms.sum tt)) "header" (.str (S l) th)) "aware" (.ref aw)) "items" (.ref it)) "header" = some (.str (S l) th) :=
    Upd.miss (by decide) (Upd.miss (by decide) Upd.hit)
  have maw : (Upd (Upd (Upd (Upd (Upd m "numbers" (.ref b)) "total" (.int ms.sum tt)) "header" (.str (S l) th)) "aware" (.ref aw)) "items" (.ref it)) "aware" = some (.ref aw) :=
    Upd.miss (by decide) Upd.hit
  have mit : (Upd (Upd (Upd (Upd (Upd m "numbers" (.ref b)) "total" (.int ms.sum tt)) "header" (.str (S l) th)) "aware" (.ref aw)) "items" (.ref it)) "items" = some (.ref it) := Upd.hit
  generalize Upd (Upd (Upd (Upd (Upd m "numbers" (.ref b)) "total" (.int ms.sum tt)) "header" (.str (S l) th)) "aware" (.ref aw)) "items" (.ref it) = mc at Fc mtot mhd maw mit
  have chd : Upd cm "hands" (.ref ha) "hands" = some (.ref ha) := Upd.hit
  generalize Upd cm "hands" (.ref ha) = cmc at Fc chd
  clear Ga uc kb hha hwa Fa ua k₉ F₈ u₈ k₇ G₈ hh₈ hh F₆ u₆ G₆ k₅ F₄ hb₄ G₄ u₄ k₃ F₂ hb₂ u₂ k₁ G₂
  -- the rows
  refine wpAny_execs_cons ?_
  refine @st_forK _ _ _ _ _ _ _ _ _ _ _ hA.1 ?_ (fun _ => rfl) (fun _ _ => rfl)
  refine List_ ?_
  refine args_cons ?_
  refine @Qt.then _ _ _ _ _ _ _ _ _ (q_one 0) ?_
  intro r0 t₁ o0 j₁
  refine args_cons ?_
  refine @Qt.then _ _ _ _ _ _ _ _ _ (q_one 1) ?_
  intro r1 t₂ o1 j₂
  refine args_cons ?_
  refine @Qt.then _ _ _ _ _ _ _ _ _ (q_one 2) ?_
  intro r2 t₃ o2 j₃
  refine args_cons ?_
  refine @Qt.then _ _ _ _ _ _ _ _ _ (q_one 3) ?_
  intro r3 t₄ o3 j₄
  refine args_cons ?_
  refine @Qt.then _ _ _ _ _ _ _ _ _ (q_one 4) ?_
  intro r4 t₅ o4 j₅
  refine args_cons ?_
  refine Qt.then (V := fun v s' => RowOk s' v) ?_ ?_
  · have F5 := Fc.k ((((j₁.trans j₂).trans j₃).trans j₄).trans j₅)
    obtain ⟨h, k, e1, e2, hrow⟩ := pair_row ms.sum
    refine List_ ?_
    refine args_cons ?_
    refine wpAny_BinOp ?_
    refine nmL F5 mtot ?_
    refine wpAny_Constant_int ?_
    refine mod_int' (by decide) ?_
    refine args_cons ?_
    refine wpAny_BinOp ?_
    refine wpAny_BinOp ?_
    refine nmL (F5.k (Kp.tok (k := t₅.toks + 1 + 1) (by omega))) mtot ?_
    refine wpAny_Constant_int ?_
    refine floordiv_int (by decide) ?_ (Or.inl (PyProof.noPylong_of_log2 (by decide +kernel)))
    refine wpAny_Constant_int ?_
    refine mod_int' (by decide) ?_
    refine args_nil ?_
    refine Qt.then (q_newList (by rw [sizeLine_eq]; simp)) ?_
    rintro v t₆ ⟨a, rfl, _, hp⟩ j
    rw [e1, e2] at hp
    exact ⟨⟨a, _, [h, k], rfl, hrow, hp.isList, .cons _ _ (.cons _ _ .nil)⟩, (Kp.tok (by show t₅.toks ≤ t₅.toks + 1 + 1 + 1 + 1 + 1 + 1; omega)).trans j⟩
  intro r5 t₆ o5 j₆
  refine args_nil ?_
  refine Qt.then (q_newList (by rw [sizeLine_eq]; simp)) ?_
  rintro v t₇ ⟨aR, rfl, _, hR⟩ j₇
  have ro : ∀ v ∈ [r0, r1, r2, r3, r4, r5], RowOk t₇ v := by
    intro v hv
    rcases List.mem_cons.mp hv with rfl | hv
    · exact (((((o0.k j₂).k j₃).k j₄).k j₅).k j₆).k j₇
    rcases List.mem_cons.mp hv with rfl | hv
    · exact ((((o1.k j₃).k j₄).k j₅).k j₆).k j₇
    rcases List.mem_cons.mp hv with rfl | hv
    · exact (((o2.k j₄).k j₅).k j₆).k j₇
    rcases List.mem_cons.mp hv with rfl | hv
    · exact ((o3.k j₅).k j₆).k j₇
    rcases List.mem_cons.mp hv with rfl | hv
    · exact (o4.k j₆).k j₇
    · rw [List.mem_singleton.mp hv]; exact o5.k j₇
  have jj := (((((j₁.trans j₂).trans j₃).trans j₄).trans j₅).trans j₆).trans j₇
  have Fb := Fc.k jj
  have hhb := IL.k hhc jj
  have hwb := IL.k hwc jj
  have hib' := IL.k hic jj
  clear o0 o1 o2 o3 o4 o5 jj j₁ j₂ j₃ j₄ j₅ j₆ j₇ hhc hwc hic Fc Gc
  refine ⟨6, fun i v => [r0, r1, r2, r3, r4, r5][i]? = some v, [aR], Fb.X, fun i s' => LJ Fb (.str (S l) th) (.ref it) (.ref aw) (.ref ha) s', src_list hR.isList, ?_, ?_, ?_, ?_, ?_⟩
  · intro b hb
    refine ⟨?_, Fb.has hb⟩
    intro hm
    rw [List.mem_singleton.mp hm] at hb
    obtain ⟨n, ho⟩ := hR
    exact Fb.off ho (by intro _ _ q; cases q) (by intro _ q; cases q) hb
  · intro s' k
    exact ⟨_, _, Fb.k k, mhd, mit, maw, chd, Up.of k⟩
  · rintro I i sa sb' hI ⟨m', cm', F', n1, n2, n3, d1, U'⟩ hIt u
    exact ⟨m', cm', F'.it hIt (none_back Fb.base hI) u, n1, n2, n3, d1, U'.itb hI u⟩
  · rintro i v sa hin hv J
    obtain ⟨rb, rvs, hs, rfl, hr, hrb, hri⟩ := ro v (List.mem_of_getElem? hv)
    refine wpAny_mono (row_turn h1' h2' h3' h4' rfl G hA hAl hlen Fb hhb hib' his hwb hws hr hrb hri J) (fun _ s₁ q₁ => wpAny_mono q₁ (fun f s₂ q₂ => ?_) fun _ _ x => x) fun _ _ x => x
    obtain ⟨rfl, q⟩ := q₂
    exact q
  · rintro sa ⟨m', cm', F', n1, n2, n3, d1, U'⟩
    refine wpAny_execs_cons ?_
    refine wpAny_Return_some ?_
    refine Constant_bool ?_
    exact ⟨rfl, F'.base⟩
end Mine
end
section
open PySem PySem.W PyProof.Rows PySem.Calls
namespace Mine
theorem cellsFrom_above : ∀ (names : List (Str × NameKind)) (n lo : Nat) (acc : List (Str × Addr)), (∀ p ∈ acc, lo ≤ p.2 ∧ p.2 < n) → (acc.Pairwise fun x y => x.2 ≠ y.2) → lo ≤ n →
    (∀ p ∈ cellsFrom n names acc, lo ≤ p.2) ∧ (cellsFrom n names acc).Pairwise fun x y => x.2 ≠ y.2
  | [], n, lo, acc, h1, h2, _ => ⟨fun p hp => (h1 p hp).1, h2⟩
  | (x, k) :: r, n, lo, acc, h1, h2, h3 => by
    unfold cellsFrom
    split
    · refine cellsFrom_above r (n + 1) lo ((x, n) :: acc) ?_ ?_ (by omega)
      · intro p hp
        rcases List.mem_cons.mp hp with rfl | hp
        · exact ⟨h3, Nat.lt_succ_self _⟩
        · have := h1 p hp; exact ⟨this.1, Nat.lt_succ_of_lt this.2⟩
      · refine List.pairwise_cons.mpr ⟨fun y hy e => ?_, h2⟩
        have := (h1 y hy).2
        have e' : n = y.2 := e
        rw [← e'] at this
        exact Nat.lt_irrefl _ this
    · exact cellsFrom_above r n lo acc h1 h2 h3
theorem CellsAre.at_lookup {cm : Str → Option Value} {cs : List (Str × Addr)} {cells : List (Addr × Obj)} (x : CellsAre cm cs cells) : ∀ {n : Str} {c : Addr}, cs.lookup n = some c → ∃ o, (c, o) ∈ cells ∧ o.data = .cell (cm n) := by
  induction x with
  | nil => intro n c h; cases h
  | @cons n' c' o cs cells h _ ih =>
    intro n c hl
    rw [List.lookup_cons] at hl
    cases hb : n == n' with
    | true => rw [hb] at hl; cases hl; rw [beq_iff_eq.mp hb]; exact ⟨o, List.mem_cons_self, h⟩
    | false => rw [hb] at hl; obtain ⟨o', hm, hd⟩ := ih hl; exact ⟨o', List.mem_cons_of_mem _ hm, hd⟩
theorem fs_head {s₁ : Shared} {h₁ : Heap} {tk : Nat} {L : Addr} {m cm : Str → Option Value} {names : List (Str × NameKind)} {cells : List (Addr × Obj)}
    (F : Fr s₁.heap L h₁ m) (N : News s₁.heap L h₁ cells) (X : CellsAre cm (cellsFrom (L + 1) names []) cells) :
    Fs { s₁ with toks := tk } L m (cellsFrom (L + 1) names []) cm { s₁ with heap := h₁, toks := tk } := by
  obtain ⟨ab, ap⟩ := cellsFrom_above names (L + 1) (L + 1) [] (by simp) .nil (Nat.le_refl _)
  refine ⟨⟨⟨⟨h₁, tk, rfl⟩, F.ns, F.keep, F.above⟩, fun n c e => ?_, ap, fun n c hm => ab _ hm⟩, Nat.le_refl _⟩
  obtain ⟨o, hm, hd⟩ := CellsAre.at_lookup X e
  exact ⟨o, N.get hm, hd⟩
/-- the law's end: True -/
theorem good_end {c : ClaimW} {cl : Str → Option Addr} {mean : ExcName → Option Value} {args : List WData} {s₁ s' : Shared} {tk : Nat} (k : Kp { s₁ with toks := tk } s') (hg : s₁.gens = #[]) (hn : ∀ cls, c.raises args cls = false) (hp : c.post args (.bool true) args = true) :
    GoodW c cl mean args s₁ (.ok (.ret (.bool true))) s' := by
  obtain ⟨⟨h, t, rfl⟩, kk, _⟩ := k
  exact ⟨.inl ⟨.bool true, .bool true, [], rfl, hn, .bool true, hp, unshared_nil⟩, fun b o e => kk b o id e, rfl, hg⟩
theorem caller_ok {env : Env} {d : Nat} (hd : d ≤ 100) : Ok (callerA.deeper env) d := by
  refine ⟨rfl, ?_, ?_⟩
  · show 1 + claimMargin + 1 + d < recursionLimit
    simp only [claimMargin, recursionLimit]; omega
  · show 4 + 3 + 8 * d + 8 < cLine
    simp only [cLine]; omega
end Mine
end
section
open PySem PySem.W PyProof.Rows PySem.Calls
namespace Mine
theorem gd_head {K : Frag} {p : Program} {loose : List Str} {mean : ExcName → Option Value} {mg mb : Str → Option Value} {h : Heap} (T : Top p loose mean mg mb h) (KX : K.In h) : Gd K h :=
  ⟨KX, ⟨mg, T.g⟩, ⟨mb, T.b, T.builtins⟩, T.nolimit⟩
theorem law_goal {prog : Program} {w : World} {A : Around} {s₁ : Shared} {h₁ : Heap} {tk : Nat} {L fa a : Addr} {cd : Value} {nm : Str} {o : Obj} {fd : FuncData} {body : List Stmt} {scope : Scope} {m cm : Str → Option Value} {cells : List (Addr × Obj)} {vs : List Value} {ns : List Int}
    (h1 : (K1 w).lookup 95 = some o) (h2 : o.data = .func fd) (h3 : fd.body = .stmts body) (h4 : fd.scope = scope)
    (G : Gd (K1 w) s₁.heap) (hA : Ok A 2) (hl : s₁.heap.IsList a vs.toArray) (hi : IntsAre vs ns) (h63 : ns.length ≤ 63)
    (F : Fr s₁.heap L h₁ m) (N : News s₁.heap L h₁ cells) (X : CellsAre cm (cellsFrom (L + 1) scope.names []) cells) (hm : m "script" = some (.ref a)) :
    wpAny (model prog w) A (execs body (envOfC nm scope L fa cd)) (fun f s' => f = .ret (.bool true) ∧ Kp { s₁ with toks := tk } s') (fun _ _ => False) { s₁ with heap := h₁, toks := tk } :=
  law_body (d := 0) (s₀ := { s₁ with toks := tk }) h1 h2 h3 h4 G hA hl hi h63 (fs_head F N X) hm
end Mine
theorem PySem.Challenge.cw_pg0143_01_holds : PySem.Challenge.rw_pg0143_01.Holds :=
  Mine.hd1 (by
    k_go0
    all_goals (try k_fold)
    rename Top _ _ _ _ _ _ => T
    rename Frag.In _ _ => KX
    rename Fr _ _ _ _ => F0
    rename News _ _ _ _ => N0
    rename CellsAre _ _ _ => X0
    rename Heap.IsList _ _ _ => hL
    rename IntsAre _ _ => hI
    rename _ = #[] => hg
    rename ¬ _ => hcond
    refine wpAny_mono (Mine.law_goal (by rfl) rfl rfl rfl (Mine.gd_head T KX) (Mine.caller_ok (by omega)) hL hI (by omega) F0 N0 X0 rfl) (fun f s' q => ?_) fun _ _ x => x.elim
    obtain ⟨rfl, k⟩ := q
    exact Mine.good_end k hg (raisesW_false (by wrow_none_raised)) (by wrow_post))
end
