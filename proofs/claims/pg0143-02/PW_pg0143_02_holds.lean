import PyProof.Rows.All
import Wide.All
import OpenK.AllK
import Wide.FinOn
import Lean
import PySem.Challenge.RW_pg0143_02
open PySem PySem.W PyProof.Rows
set_option Elab.async false
set_option maxRecDepth 100000
set_option maxHeartbeats 8000000
set_option linter.unusedVariables false

section
open PySem PySem.W PyProof.Rows
namespace Mine
open_top hd2 for PySem.Challenge.rw_pg0143_02
end Mine
end
section
open PySem PySem.W PyProof.Rows PySem.Calls
namespace Mine

/-- only the heap and the tokens turn; what lies off X stays -/
noncomputable def Up (X : Addr → Prop) (s s' : Shared) : Prop :=
  (∃ h tk, s' = { s with heap := h, toks := tk }) ∧ (∀ b o, ¬ X b → s.heap.get? b = some o → s'.heap.get? b = some o) ∧ s.toks ≤ s'.toks
abbrev Kp (s s' : Shared) : Prop := Up (fun _ => False) s s'

theorem Up.refl (X) (s : Shared) : Up X s s := ⟨⟨s.heap, s.toks, rfl⟩, fun _ _ _ e => e, Nat.le_refl _⟩
theorem Up.trans {X} {s s' s'' : Shared} (a : Up X s s') (b : Up X s' s'') : Up X s s'' := by
  obtain ⟨⟨h, tk, rfl⟩, a2, a3⟩ := a
  obtain ⟨⟨h', tk', rfl⟩, b2, b3⟩ := b
  exact ⟨⟨h', tk', rfl⟩, fun x o hx e => b2 x o hx (a2 x o hx e), Nat.le_trans a3 b3⟩
theorem Up.mono {X Y : Addr → Prop} {s s' : Shared} (a : Up X s s') (h : ∀ b, X b → Y b) : Up Y s s' :=
  ⟨a.1, fun b o hb e => a.2.1 b o (fun x => hb (h b x)) e, a.2.2⟩
theorem Up.of {X} {s s' : Shared} (a : Kp s s') : Up X s s' := a.mono fun _ f => f.elim
theorem Kp.rfl' {s : Shared} : Kp s s := Up.refl _ s
theorem Kp.keep {s s' : Shared} (a : Kp s s') (b : Addr) (o : Obj) (e : s.heap.get? b = some o) : s'.heap.get? b = some o := a.2.1 b o id e
theorem Kp.tok {s : Shared} {k : Nat} (h : s.toks ≤ k) : Kp s { s with toks := k } := ⟨⟨_, _, rfl⟩, fun _ _ _ e => e, h⟩
theorem Kp.heap {s : Shared} {h : Heap} {k : Nat} (hk : s.toks ≤ k) (hh : ∀ b o, s.heap.get? b = some o → h.get? b = some o) : Kp s { s with heap := h, toks := k } :=
  ⟨⟨_, _, rfl⟩, fun b o _ e => hh b o e, hk⟩
theorem Kp.push {s : Shared} (o : Obj) : Kp s { s with heap := s.heap.push o } := ⟨⟨_, _, rfl⟩, fun _ _ _ e => Heap.get?_push_of_some o e, Nat.le_refl _⟩
theorem Kp.of {s s' : Shared} (a : Keeps s s') (t : s.toks ≤ s'.toks) : Kp s s' := by
  obtain ⟨h, tk, rfl, k⟩ := a
  exact ⟨⟨h, tk, rfl⟩, fun b o _ e => k b o e, t⟩
theorem Kp.keeps {s s' : Shared} (a : Kp s s') : Keeps s s' := by
  obtain ⟨⟨h, tk, rfl⟩, k, _⟩ := a
  exact ⟨h, tk, rfl, fun b o e => k b o id e⟩

section
variable {α β : Type} {prog : Program} {w : World} {A : Around} {E : Value → Shared → Prop} {s : Shared}

/-- ends, gives back what V says, leaves all that stood -/
noncomputable def Qt (prog : Program) (w : World) (A : Around) (t : Sem α) (V : α → Shared → Prop) (s : Shared) : Prop :=
  wpAny (model prog w) A t (fun v s' => V v s' ∧ Kp s s') (fun _ _ => False) s

theorem Qt.then {t : Sem α} {V Q : α → Shared → Prop} (h : Qt prog w A t V s) (k : ∀ v s', V v s' → Kp s s' → Q v s') : wpAny (model prog w) A t Q E s :=
  wpAny_mono h (fun v s' x => k v s' x.1 x.2) fun _ _ f => f.elim
theorem Qt.mk {t : Sem α} {V : α → Shared → Prop} (h : wpAny (model prog w) A t (fun v s' => V v s' ∧ Keeps s s') (fun _ _ => False) s) : Qt prog w A t V s :=
  wpAny_mono (wpAny_toks_of (Nat.le_refl _) h) (fun v s' x => ⟨x.2.1, Kp.of x.2.2 x.1⟩) fun _ _ f => f.2
theorem Qt.mono {t : Sem α} {V V' : α → Shared → Prop} (h : Qt prog w A t V s) (k : ∀ v s', V v s' → Kp s s' → V' v s') : Qt prog w A t V' s :=
  h.then fun v s' a b => ⟨k v s' a b, b⟩
/-- from a state below -/
theorem Qt.from {t : Sem α} {V : α → Shared → Prop} {s₀ : Shared} (h : Qt prog w A t V s) (k : Kp s₀ s) : wpAny (model prog w) A t (fun v s' => V v s' ∧ Kp s₀ s') (fun _ _ => False) s :=
  h.then fun _ _ a b => ⟨a, k.trans b⟩
end

/-- a list's items -/
noncomputable def IsL (s : Shared) (v : Value) (vs : List Value) : Prop := ∃ a, v = .ref a ∧ s.heap.IsList a vs.toArray
noncomputable def IsT (s : Shared) (v : Value) (vs : List Value) : Prop := ∃ a, v = .ref a ∧ s.heap.IsTuple a vs.toArray

/-- inside a call of a def: its locals, its cells -/
structure Fs (s₀ : Shared) (L : Addr) (m : Str → Option Value) (cs : List (Str × Addr)) (cm : Str → Option Value) (s : Shared) : Prop where
  inC : InCallC s₀ L m cs cm s
  tk₀ : s₀.toks ≤ s.toks

/-- one name's value anew -/
noncomputable def Upd (m : Str → Option Value) (n : Str) (v : Value) : Str → Option Value := fun y => if y = n then some v else m y
theorem Upd.hit {m : Str → Option Value} {n : Str} {v : Value} : Upd m n v n = some v := by simp [Upd]
theorem Upd.miss {m : Str → Option Value} {n k : Str} {v : Value} {r : Option Value} (h : (k == n) = false) (e : m k = r) : Upd m n v k = r := by
  have : k ≠ n := fun e => by subst e; simp at h
  simpa [Upd, this] using e

noncomputable def Mx (L : Addr) (cs : List (Str × Addr)) (b : Addr) : Prop := b = L ∨ ∃ n, cs.lookup n = some b

section
variable {s₀ s s' : Shared} {L : Addr} {m cm : Str → Option Value} {cs : List (Str × Addr)}
theorem Fs.k (F : Fs s₀ L m cs cm s) (k : Kp s s') : Fs s₀ L m cs cm s' := by
  obtain ⟨⟨⟨⟨h, tk, rfl⟩, ns, kp, fr⟩, cell, ap, ab⟩, tk0⟩ := F
  have hk := k.keep
  obtain ⟨⟨h', tk', rfl⟩, _, t⟩ := k
  exact ⟨⟨⟨⟨h', tk', rfl⟩, ns.keeps hk, fun b o e => hk b o (kp b o e), fr⟩, fun n c e => (cell n c e).keeps hk, ap, ab⟩, Nat.le_trans tk0 t⟩
theorem Fs.base (F : Fs s₀ L m cs cm s) : Kp s₀ s := by
  obtain ⟨h, tk, rfl⟩ := F.inC.toInCall.same
  exact ⟨⟨h, tk, rfl⟩, fun b o _ e => F.inC.toInCall.keep b o e, F.tk₀⟩
theorem Fs.off (F : Fs s₀ L m cs cm s) {b : Addr} {o : Obj} (e : s.heap.get? b = some o) (h1 : ∀ es ep, o.data ≠ .dict es ep) (h2 : ∀ v, o.data ≠ .cell v) : ¬ Mx L cs b := by
  rintro (rfl | ⟨n, hn⟩)
  · obtain ⟨o', es, ep, ho, hd, _⟩ := F.inC.toInCall.ns
    rw [e] at ho; cases ho; exact h1 _ _ hd
  · obtain ⟨o', ho, hd⟩ := F.inC.cell n b hn
    rw [e] at ho; cases ho; exact h2 _ hd
theorem Fs.off₀ (F : Fs s₀ L m cs cm s) {b : Addr} {o : Obj} (e : s₀.heap.get? b = some o) : ¬ Mx L cs b := by
  have hb := Nat.lt_of_lt_of_le (Heap.lt_size e) F.inC.toInCall.fresh
  rintro (rfl | ⟨n, hn⟩)
  · exact Nat.lt_irrefl _ hb
  · exact Nat.lt_irrefl _ (Nat.lt_trans hb (F.inC.above n b (mem_of_lookup hn)))
theorem IsL.k {v vs} (x : IsL s v vs) (k : Kp s s') : IsL s' v vs := let ⟨a, e, l⟩ := x; ⟨a, e, l.at fun o ho => k.keep a o ho⟩
theorem IsT.k {v vs} (x : IsT s v vs) (k : Kp s s') : IsT s' v vs := let ⟨a, e, o, ho, r⟩ := x; ⟨a, e, o, k.keep a o ho, r⟩
theorem IsL.up {v vs} (x : IsL s v vs) (F : Fs s₀ L m cs cm s) (u : Up (Mx L cs) s s') : IsL s' v vs := by
  obtain ⟨a, e, o, ho, hc, n, hd⟩ := x
  exact ⟨a, e, o, u.2.1 a o (F.off ho (by rw [hd]; intro _ _ q; cases q) (by rw [hd]; intro _ q; cases q)) ho, hc, n, hd⟩
theorem IsT.up {v vs} (x : IsT s v vs) (F : Fs s₀ L m cs cm s) (u : Up (Mx L cs) s s') : IsT s' v vs := by
  obtain ⟨a, e, o, ho, hc, n, hd⟩ := x
  exact ⟨a, e, o, u.2.1 a o (F.off ho (by rw [hd]; intro _ _ q; cases q) (by rw [hd]; intro _ q; cases q)) ho, hc, n, hd⟩
end

section
variable {prog : Program} {w : World} {A : Around} {E : Value → Shared → Prop} {s₀ s : Shared} {m cm : Str → Option Value} {env : Env} {n : Str} {v : Value}

theorem nmL {pos : Pos} {Q : Value → Shared → Prop} (F : Fs s₀ env.locals m env.cells cm s) (hv : m n = some v) (h : Q v s)
    (hk : env.scope.kind = .function := by rfl) (hl : env.kindOf n = some .local := by rfl) (hd : (n == ("__debug__" : Str)) = false := by decide) :
    wpAny (model prog w) A (eval (.Name n pos) env) Q E s := NameLC F.inC hk hl hv h hd
theorem nmC {pos : Pos} {c : Addr} {Q : Value → Shared → Prop} (F : Fs s₀ env.locals m env.cells cm s) (hc : env.cells.lookup n = some c) (hv : cm n = some v) (h : Q v s)
    (hk : env.scope.kind = .function := by rfl) (hl : env.kindOf n = some .cell := by rfl) (hd : (n == ("__debug__" : Str)) = false := by decide) :
    wpAny (model prog w) A (eval (.Name n pos) env) Q E s := NameCC F.inC hk hl hc hv h hd
theorem nmG {pos : Pos} {mg : Str → Option Value} {Q : Value → Shared → Prop} (hg : s.heap.Ns env.globals mg) (hv : mg n = some v) (h : Q v s)
    (hk : env.scope.kind = .function := by rfl) (hl : env.kindOf n = some .globalImplicit := by rfl) (hd : (n == ("__debug__" : Str)) = false := by decide) :
    wpAny (model prog w) A (eval (.Name n pos) env) Q E s := Name_function_global hk hl (loadGlobal_global hg hv h) hd
theorem nmB {pos : Pos} {mg mb : Str → Option Value} {Q : Value → Shared → Prop} (hg : s.heap.Ns env.globals mg) (hm : mg n = none) (hb : s.heap.Ns env.builtins mb) (hv : mb n = some v) (h : Q v s)
    (hk : env.scope.kind = .function := by rfl) (hl : env.kindOf n = some .globalImplicit := by rfl) (hd : (n == ("__debug__" : Str)) = false := by decide) :
    wpAny (model prog w) A (eval (.Name n pos) env) Q E s := Name_function_global hk hl (loadGlobal_builtin hg hm hb hv h) hd

theorem stL {Q : Unit → Shared → Prop} (F : Fs s₀ env.locals m env.cells cm s)
    (h : ∀ s', Fs s₀ env.locals (Upd m n v) env.cells cm s' → Up (Mx env.locals env.cells) s s' → Q () s')
    (hk : env.scope.kind = .function := by rfl) (hl : env.kindOf n = some .local := by rfl) : wpAny (model prog w) A (storeName env n v) Q E s := by
  have x := F.inC
  refine wpAny_storeName_local hl x.toInCall.ns (fun h' hn' hs' => h _ ⟨⟨⟨?_, hn', fun b o e => ?_, x.toInCall.fresh⟩, fun k c hc => ?_, x.apart, x.above⟩, ?_⟩ ⟨⟨_, _, rfl⟩, ?_, ?_⟩) (by rw [hk]; rfl)
  · obtain ⟨h₁, tk, rfl⟩ := x.toInCall.same
    exact ⟨h', _, rfl⟩
  · exact hs'.extBut b o (Nat.ne_of_lt (Nat.lt_of_lt_of_le (Heap.lt_size e) x.toInCall.fresh)) (x.toInCall.keep b o e)
  · exact (x.cell k c hc).sameBut hs' (Nat.ne_of_gt (x.above k c (mem_of_lookup hc)))
  · exact Nat.le_succ_of_le F.tk₀
  · intro b o hb e
    exact hs'.extBut b o (fun q => hb (.inl q)) e
  · exact Nat.le_succ _
theorem stC {c : Addr} {Q : Unit → Shared → Prop} (F : Fs s₀ env.locals m env.cells cm s) (hc : env.cells.lookup n = some c)
    (h : ∀ s', Fs s₀ env.locals m env.cells (Upd cm n v) s' → Up (Mx env.locals env.cells) s s' → Q () s')
    (hk : env.scope.kind = .function := by rfl) (hl : env.kindOf n = some .cell := by rfl) : wpAny (model prog w) A (storeName env n v) Q E s := by
  have x := F.inC
  have hLc := x.above n c (mem_of_lookup hc)
  refine wpAny_storeName_cell hk hl hc (x.cell n c hc) fun h' hc' hs' => h _ ⟨⟨⟨?_, x.toInCall.ns.sameBut hs' (Nat.ne_of_lt hLc), fun b o e => ?_, x.toInCall.fresh⟩, fun k c' hk' => ?_, x.apart, x.above⟩, F.tk₀⟩ ⟨⟨_, _, rfl⟩, ?_, Nat.le_refl _⟩
  · obtain ⟨h₁, tk, rfl⟩ := x.toInCall.same
    exact ⟨h', _, rfl⟩
  · exact hs'.extBut b o (Nat.ne_of_lt (Nat.lt_trans (Nat.lt_of_lt_of_le (Heap.lt_size e) x.toInCall.fresh) hLc)) (x.toInCall.keep b o e)
  · by_cases hkn : k = n
    · subst hkn
      rw [hc] at hk'; cases hk'
      rw [Upd.hit]; exact hc'
    · rw [Upd.miss (r := cm k) (by simpa using hkn) rfl]
      exact (x.cell k c' hk').sameBut hs' fun e => hkn (name_of_addr x.apart (mem_of_lookup hk') (e ▸ mem_of_lookup hc))
  · intro b o hb e
    exact hs'.extBut b o (fun q => hb (.inr ⟨n, q ▸ hc⟩)) e
end

/-- what a call of a def leaves to its caller -/
noncomputable def Ok (A : Around) (d : Nat) : Prop := A.handled = none ∧ A.depth + d < recursionLimit ∧ A.units + 8 * d + 8 < cLine
theorem Ok.deeper {A : Around} {d : Nat} {env : Env} (h : Ok A (d + 1)) : Ok (A.deeper env) d := by
  obtain ⟨h1, h2, h3⟩ := h
  refine ⟨h1, ?_, ?_⟩
  · show A.depth + 1 + d < _; omega
  · show A.units + 3 + 8 * d + 8 < _; omega
theorem Ok.room {A : Around} {d : Nat} (h : Ok A d) : A.depth < recursionLimit := by have := h.2.1; omega
theorem Ok.units {A : Around} {d : Nat} (h : Ok A d) : A.units < cLine := by have := h.2.2; omega

section
variable {prog : Program} {w : World} {A : Around} {s : Shared}
/-- a call of a def without cells -/
theorem fn_rule {f : Addr} {o : Obj} {fd : FuncData} {body : List Stmt} {vals : List Value} {binds : List (Str × Value)} {V : Value → Shared → Prop} {d : Nat}
    (hA : Ok A d) (ho : s.heap.get? f = some o) (hdata : o.data = .func fd) (hlim : s.heap.NoLimit) (hcd : s.heap.CodeRec fd.code fd.qualname)
    (hbody : fd.body = .stmts body) (hbind : bindArgs fd ⟨vals, []⟩ = pure binds) (hclo : fd.closure = [])
    (hcell : ∀ x ∈ fd.scope.names, x.2 ≠ .cell) (hloc : ∀ x ∈ binds, fd.scope.names.lookup x.1 = some .local)
    (h : ∀ L s₁, Fs s (callEnv fd L f).locals (fun x => binds.reverse.lookup x) (callEnv fd L f).cells (fun _ => none) s₁ → s.toks + binds.length ≤ s₁.toks →
      wpAny (model prog w) (A.deeper (callEnv fd L f)) (execs body (callEnv fd L f)) (fun fl s' => V (match fl with | .ret v => v | _ => .none) s' ∧ Kp s s') (fun _ _ => False) s₁)
    (hco : fd.scope.isCoroutine = false := by rfl) (hgen : fd.scope.isGenerator = false := by rfl) (hk : fd.scope.kind = .function := by rfl) :
    Qt prog w A (call (.ref f) vals) V s := by
  refine wpAny_call (codeAny_call_def hA.room ho hdata hlim hcd hbody (BindsTo.of_eq hbind) hcell hloc (fun h₀ hn hk₀ => ?_) hco hgen hk)
  refine wpAny_mono (h s.heap.objs.size _ ⟨⟨⟨⟨h₀, _, rfl⟩, hn, hk₀, Nat.le_refl _⟩, ?_, ?_, ?_⟩, Nat.le_add_right _ _⟩ (Nat.le_refl _)) (fun _ _ x => x) fun _ _ f => f.elim
  · intro n c hc
    have e : (callEnv fd s.heap.objs.size f).cells = [] := hclo
    rw [e] at hc; cases hc
  · have e : (callEnv fd s.heap.objs.size f).cells = [] := hclo
    rw [e]; exact .nil
  · intro n c hc
    have e : (callEnv fd s.heap.objs.size f).cells = [] := hclo
    rw [e] at hc; cases hc
/-- a call of a def with cells -/
theorem fn_ruleC {f : Addr} {o : Obj} {fd : FuncData} {body : List Stmt} {vals : List Value} {binds : List (Str × Value)} {V : Value → Shared → Prop} {d : Nat}
    (hA : Ok A d) (ho : s.heap.get? f = some o) (hdata : o.data = .func fd) (hlim : s.heap.NoLimit) (hcd : s.heap.CodeRec fd.code fd.qualname)
    (hbody : fd.body = .stmts body) (hbind : bindArgs fd ⟨vals, []⟩ = pure binds) (hclo : fd.closure = [])
    (hkind : ∀ n, ∀ x ∈ binds, fd.scope.names.lookup x.1 = some .local ∨ (fd.scope.names.lookup x.1 = some .cell ∧ ((cellsFrom n fd.scope.names []).lookup x.1).isSome = true))
    (h : ∀ L s₁, Fs s (callEnvC fd L f).locals (bindL (callEnvC fd L f).kindOf binds fun _ => none) (callEnvC fd L f).cells (bindC (callEnvC fd L f).kindOf binds fun _ => none) s₁ →
      wpAny (model prog w) (A.deeper (callEnvC fd L f)) (execs body (callEnvC fd L f)) (fun fl s' => V (match fl with | .ret v => v | _ => .none) s' ∧ Kp s s') (fun _ _ => False) s₁)
    (hco : fd.scope.isCoroutine = false := by rfl) (hgen : fd.scope.isGenerator = false := by rfl) (hk : fd.scope.kind = .function := by rfl) :
    Qt prog w A (call (.ref f) vals) V s := by
  refine wpAny_call (codeAny_call_function hA.room ho hdata hco hgen hbody hcd ?_)
  rw [hbind, hclo]
  refine wpAny_pure (wpAny_with_toks (n := s.toks) (Nat.le_refl _) (wpAny_newFunctionEnv_cells hk (hkind _) fun env he s' x ht => ?_))
  subst he
  exact ⟨hlim.keeps x.toInCall.keep, codeAny_func (wpAny_mono (h _ s' ⟨x, ht⟩) (fun _ _ x => x) fun _ _ f => f.elim)⟩
end
end Mine
end
section
open PySem PySem.W PyProof.Rows PySem.Calls
namespace Mine

/-- a text of its signs' numbers -/
abbrev S (l : List Nat) : Str := ⟨l.toArray⟩
theorem S_len (l : List Nat) : (S l).length = l.length := by simp [Str.length]
theorem S_toList (l : List Nat) : (S l).cps.toList = l := by simp
theorem S_app (a b : List Nat) : S a ++ S b = S (a ++ b) := Str.ext' (by rw [Str.cps_append]; simp)
theorem S_of (x : Str) : x = S x.cps.toList := Str.ext' (by simp)
theorem S_inj {a b : List Nat} (h : S a = S b) : a = b := by have := congrArg (fun x => x.cps.toList) h; simpa using this
theorem ofL {x : Str} {l : List Nat} (h : x.cps.toList = l) : x = S l := by rw [S_of x, h]

noncomputable def joinL (sep : List Nat) : List (List Nat) → List Nat
  | [] => []
  | [x] => x
  | x :: y :: r => x ++ sep ++ joinL sep (y :: r)
theorem join_S (sep : List Nat) : ∀ ps : List (List Nat), Str.join (S sep) (ps.map S) = S (joinL sep ps)
  | [] => rfl
  | [x] => rfl
  | x :: y :: r => by
    have ih := join_S sep (y :: r)
    show S x ++ S sep ++ Str.join (S sep) ((y :: r).map S) = _
    rw [ih, S_app, S_app]; rfl
theorem joinL_nil_sep : ∀ ps : List (List Nat), joinL [] ps = ps.flatten
  | [] => rfl
  | [x] => by simp [joinL]
  | x :: y :: r => by
    show x ++ [] ++ joinL [] (y :: r) = _
    rw [joinL_nil_sep (y :: r)]; simp

/-- cut at each c -/
noncomputable def splitL (c : Nat) : List Nat → List (List Nat)
  | [] => [[]]
  | d :: r => if d = c then [] :: splitL c r else match splitL c r with
    | [] => [[d]]
    | p :: q => (d :: p) :: q
theorem splitL_ne (c : Nat) : ∀ l, splitL c l ≠ []
  | [] => by simp [splitL]
  | d :: r => by
    unfold splitL
    split
    · simp
    · split <;> simp
theorem splitL_free (c : Nat) : ∀ (p : List Nat), c ∉ p → splitL c p = [p]
  | [], _ => rfl
  | d :: r, h => by
    have hd : d ≠ c := fun e => h (by simp [e])
    have hr : c ∉ r := fun e => h (by simp [e])
    unfold splitL
    rw [if_neg hd, splitL_free c r hr]
theorem splitL_app (c : Nat) (q : List Nat) : ∀ (p : List Nat), c ∉ p → splitL c (p ++ c :: q) = p :: splitL c q
  | [], _ => by simp [splitL]
  | d :: r, h => by
    have hd : d ≠ c := fun e => h (by simp [e])
    have hr : c ∉ r := fun e => h (by simp [e])
    have e : splitL c (d :: (r ++ c :: q)) = if d = c then [] :: splitL c (r ++ c :: q) else match splitL c (r ++ c :: q) with
      | [] => [[d]]
      | p :: q => (d :: p) :: q := rfl
    show splitL c (d :: (r ++ c :: q)) = _
    rw [e, if_neg hd, splitL_app c q r hr]
theorem splitL_join (c : Nat) : ∀ ps : List (List Nat), ps ≠ [] → (∀ p ∈ ps, c ∉ p) → splitL c (joinL [c] ps) = ps
  | [], h, _ => absurd rfl h
  | [p], _, h => splitL_free c p (h p (by simp))
  | p :: q :: r, _, h => by
    show splitL c (p ++ [c] ++ joinL [c] (q :: r)) = _
    rw [List.append_assoc]
    show splitL c (p ++ c :: joinL [c] (q :: r)) = _
    rw [splitL_app c _ p (h p (by simp)), splitL_join c (q :: r) (by simp) (fun x hx => h x (by simp [List.mem_cons.mp hx]))]
theorem split_S (l : List Nat) (c : Nat) : Txt.split (S l) (S [c]) = (splitL c l).map S := by
  have h1 := StrLaws.join_split (S l) (S [c])
  have h2 := StrLaws.split_free (S l) c
  generalize hp : Txt.split (S l) (S [c]) = ps at h1
  have h2' : ∀ p ∈ ps, c ∉ p.cps.toList := by rw [← hp]; exact h2
  have e : ps = (ps.map (·.cps.toList)).map S := by
    rw [List.map_map]
    conv => lhs; rw [← List.map_id ps]
    exact List.map_congr_left fun x _ => S_of x
  rw [e, join_S] at h1
  have hne : ps.map (·.cps.toList) ≠ [] := by
    intro hn
    have hps : ps = [] := by simpa using hn
    subst hps
    have : Txt.split (S l) (S [c]) ≠ [] := by
      unfold Txt.split
      split
      · simp
      · split
        · simp
        · rw [StrLaws.partsBetween_eq]
          obtain ⟨p, r, e⟩ := StrLaws.partsFrom_ne (S l) (S [c]).length 0 (Builtin.Str.occurrences (S l) (S [c]) 0 (S l).length ((S l).length + 1))
          rw [e]; simp
    exact this hp
  have h3 := S_inj h1
  rw [← h3, splitL_join c _ hne (by intro p hpm; obtain ⟨x, hx, rfl⟩ := List.mem_map.mp hpm; exact h2' x hx)]
  exact e

theorem flat_not {c : Nat} {z : List Nat} : ∀ {l : List Nat}, c ∉ l → (l.flatMap fun d => if d = c then z else [d]) = l
  | [], _ => rfl
  | d :: r, h => by
    have hd : d ≠ c := fun e => h (by simp [e])
    have hr : c ∉ r := fun e => h (by simp [e])
    rw [List.flatMap_cons, if_neg hd, flat_not hr]; rfl
theorem flat_join (c : Nat) (z : List Nat) : ∀ ps : List (List Nat), (∀ p ∈ ps, c ∉ p) → (joinL [c] ps).flatMap (fun d => if d = c then z else [d]) = joinL z ps
  | [], _ => rfl
  | [p], h => flat_not (h p (by simp))
  | p :: q :: r, h => by
    have ih := flat_join c z (q :: r) (fun x hx => h x (List.mem_cons_of_mem _ hx))
    show (p ++ [c] ++ joinL [c] (q :: r)).flatMap _ = p ++ z ++ joinL z (q :: r)
    rw [List.flatMap_append, List.flatMap_append, ih, flat_not (h p (by simp))]
    simp
theorem joinL_splitL (c : Nat) : ∀ l, joinL [c] (splitL c l) = l
  | [] => rfl
  | d :: r => by
    have ih := joinL_splitL c r
    unfold splitL
    split
    · rename_i e
      subst e
      cases hq : splitL d r with
      | nil => exact absurd hq (splitL_ne d r)
      | cons p q => rw [hq] at ih; show [] ++ [d] ++ joinL [d] (p :: q) = _; rw [ih]; rfl
    · split
      · rename_i hq; exact absurd hq (splitL_ne c r)
      · rename_i p q hq
        rw [hq] at ih
        cases q with
        | nil => show d :: p = d :: r; rw [show p = r from ih]
        | cons p' q' => show (d :: p) ++ [c] ++ joinL [c] (p' :: q') = _; rw [← ih]; rfl
theorem splitL_mem (c : Nat) : ∀ (l : List Nat), ∀ p ∈ splitL c l, c ∉ p
  | [], p, h => by simp [splitL] at h; simp [h]
  | d :: r, p, h => by
    have ih := splitL_mem c r
    unfold splitL at h
    split at h
    · rcases List.mem_cons.mp h with rfl | h
      · simp
      · exact ih p h
    · rename_i hd
      split at h
      · rename_i hq; exact absurd hq (splitL_ne c r)
      · rename_i p' q hq
        rcases List.mem_cons.mp h with rfl | h
        · intro hm
          rcases List.mem_cons.mp hm with e | hm
          · exact hd e.symm
          · exact ih p' (by rw [hq]; simp) hm
        · exact ih p (by rw [hq]; simp [h])
theorem replace_S (l : List Nat) (c : Nat) (z : List Nat) : Txt.replace (S l) (S [c]) (S z) = S (l.flatMap fun d => if d = c then z else [d]) := by
  rw [show S [c] = ⟨#[c]⟩ from rfl, StrLaws.replace_one, show (⟨#[c]⟩ : Str) = S [c] from rfl, split_S, join_S]
  conv => rhs; rw [← joinL_splitL c l]
  rw [flat_join c z _ (splitL_mem c l)]
theorem contains_S (l : List Nat) (c : Nat) : Txt.contains (S l) (S [c]) = decide (c ∈ l) := by
  have := StrLaws.found_one (S l) c
  rw [S_toList] at this
  exact this
/-- off both ends -/
noncomputable def stripL (g : Nat → Bool) (l : List Nat) : List Nat := ((l.dropWhile g).reverse.dropWhile g).reverse
theorem drop_takeWhile {α} (g : α → Bool) : ∀ l : List α, l.drop (l.takeWhile g).length = l.dropWhile g
  | [] => rfl
  | a :: r => by
    rw [List.takeWhile_cons, List.dropWhile_cons]
    cases g a
    · rfl
    · simpa using drop_takeWhile g r
theorem take_rtake {α} (g : α → Bool) (l : List α) : l.take (l.length - (l.reverse.takeWhile g).length) = (l.reverse.dropWhile g).reverse := by
  have h := List.takeWhile_append_dropWhile (p := g) (l := l.reverse)
  have e : l = (l.reverse.dropWhile g).reverse ++ (l.reverse.takeWhile g).reverse := by
    rw [← List.reverse_append, h, List.reverse_reverse]
  generalize (l.reverse.dropWhile g).reverse = a at e ⊢
  generalize hb : (l.reverse.takeWhile g).reverse = b at e
  have hl : (l.reverse.takeWhile g).length = b.length := by rw [← hb, List.length_reverse]
  rw [hl, e]
  simp
theorem stripBy_S (g : Nat → Bool) (l : List Nat) : Txt.stripBy g true true (S l) = S (stripL g l) := by
  rw [PyProof.Rows.stripBy_eq]
  refine ofL ?_
  rw [StrLaws.strSub_toList]
  simp only [stripLo, stripHi, if_true, S_toList, S_len]
  rw [drop_takeWhile]
  unfold stripL
  rw [← take_rtake g (l.dropWhile g)]
  congr 1
  have := congrArg List.length (drop_takeWhile g l)
  rw [List.length_drop] at this
  omega
theorem strip_S (l : List Nat) : Txt.strip (S l) = S (stripL Unicode.isSpace l) := stripBy_S _ l
theorem stripChars_S (l cs : List Nat) : Txt.stripChars (S l) (S cs) = S (stripL (fun d => cs.contains d) l) := by
  have h := stripBy_S (S cs).cps.contains l
  rw [show Txt.stripChars (S l) (S cs) = Txt.stripBy (S cs).cps.contains true true (S l) from rfl, h]
  congr 2
  funext d; simp

/-- each sign as a table spells it -/
noncomputable def spell (T : List (Nat × List Nat)) (d : Nat) : List Nat := (T.lookup d).getD [d]
noncomputable def okT (T : List (Nat × List Nat)) (c : Nat) : Bool := T.all fun p => p.1 != c && !p.2.contains c
theorem memT : ∀ {T : List (Nat × List Nat)} {d : Nat} {u : List Nat}, T.lookup d = some u → (d, u) ∈ T
  | [], _, _, h => by cases h
  | (a, b) :: r, d, u, h => by
    rw [List.lookup_cons] at h
    cases e : d == a with
    | true => rw [e] at h; have := beq_iff_eq.mp e; cases h; subst this; simp
    | false => rw [e] at h; exact List.mem_cons_of_mem _ (memT h)
theorem lookup_app {T U : List (Nat × List Nat)} {d : Nat} : (T ++ U).lookup d = (T.lookup d).or (U.lookup d) := by
  rw [List.lookup_append]
theorem spell_snoc {T : List (Nat × List Nat)} {c : Nat} {z : List Nat} (h : okT T c = true) (d : Nat) :
    (spell T d).flatMap (fun e => if e = c then z else [e]) = spell (T ++ [(c, z)]) d := by
  unfold spell
  rw [lookup_app]
  cases hl : T.lookup d with
  | none =>
    simp only [Option.none_or, Option.getD_none, List.flatMap_cons, List.flatMap_nil, List.append_nil, List.lookup_cons, List.lookup_nil]
    by_cases hd : d = c
    · subst hd; simp
    · have : (d == c) = false := by simpa using hd
      simp [hd, this]
  | some u =>
    simp only [Option.some_or, Option.getD_some]
    have hm : (d, u) ∈ T := memT hl
    have := List.all_eq_true.mp h _ hm
    simp only [Bool.and_eq_true, Bool.not_eq_true', bne_iff_ne, ne_eq] at this
    exact flat_not (by intro q; have h2 := this.2; rw [List.contains_eq_mem] at h2; simp [q] at h2)
theorem flatMap_flatMap {f g : Nat → List Nat} (l : List Nat) : (l.flatMap f).flatMap g = l.flatMap fun d => (f d).flatMap g := by
  induction l with
  | nil => rfl
  | cons a r ih => rw [List.flatMap_cons, List.flatMap_append, ih, List.flatMap_cons]
noncomputable def lenT (T : List (Nat × List Nat)) : Bool := T.all fun p => decide (p.2.length ≤ 6)
theorem spell_len {T : List (Nat × List Nat)} (h : lenT T = true) (d : Nat) : (spell T d).length ≤ 6 := by
  unfold spell
  cases hl : T.lookup d with
  | none => simp
  | some u => simpa using of_decide_eq_true (List.all_eq_true.mp h _ (memT hl))
theorem flat_len {f : Nat → List Nat} {k : Nat} (h : ∀ d, (f d).length ≤ k) : ∀ l : List Nat, (l.flatMap f).length ≤ k * l.length
  | [] => by simp
  | a :: r => by
    have := flat_len h r
    have := h a
    rw [List.flatMap_cons, List.length_append, List.length_cons, Nat.mul_succ]
    omega
end Mine
end
section
open PySem PySem.W PyProof.Rows PySem.Calls
namespace Mine

section
variable {prog : Program} {w : World} {A : Around} {E : Value → Shared → Prop} {s : Shared} {env : Env} {x : Str} {t : Tok} {Q : Value → Shared → Prop}
theorem onStr {name : Str} {id : String} {pos : Pos} {args : List (Bool × Sem Value)} (slot : Slot "str" name id) (ty : typeOf (.builtin id) = pure (.type "method_descriptor"))
    (h : wpAny (model prog w) A (callWith pos (.builtin id) [.str x t] args []) Q E s) : MethodOnS prog w A E name (.str x t) pos args Q s :=
  ⟨"str", id, F.plainAttrs_str, slot, ty, typeIs_str _ _ _, (fun _ e => nomatch e), h⟩
theorem mc0 {o : Expr} {name : Str} {apos pos : Pos} (h : wpAny (model prog w) A (eval o env) (fun ov s₁ => MethodOnS prog w A E name ov pos [] Q s₁) E s)
    (hbase : attributeBase o name env (eval o env) = eval o env := by rfl) (hline : (apos.endLine == pos.line) = true := by rfl) :
    wpAny (model prog w) A (eval (.Call (.Attribute o name apos) [] [] pos) env) Q E s := Call_method0 hbase hline h
theorem mc1 {o e : Expr} {name : Str} {apos pos : Pos} (h : wpAny (model prog w) A (eval o env) (fun ov s₁ => MethodOnS prog w A E name ov pos [(false, eval e env)] Q s₁) E s)
    (hbase : attributeBase o name env (eval o env) = eval o env := by rfl) (hs : starEach [e] env = [(false, eval e env)] := by rfl) (hline : (apos.endLine == pos.line) = true := by rfl) :
    wpAny (model prog w) A (eval (.Call (.Attribute o name apos) [e] [] pos) env) Q E s := Call_method1 hbase hs hline h
theorem mc2 {o e₁ e₂ : Expr} {name : Str} {apos pos : Pos} (h : wpAny (model prog w) A (eval o env) (fun ov s₁ => MethodOnS prog w A E name ov pos [(false, eval e₁ env), (false, eval e₂ env)] Q s₁) E s)
    (hbase : attributeBase o name env (eval o env) = eval o env := by rfl) (hs : starEach [e₁, e₂] env = [(false, eval e₁ env), (false, eval e₂ env)] := by rfl) (hline : (apos.endLine == pos.line) = true := by rfl) :
    wpAny (model prog w) A (eval (.Call (.Attribute o name apos) [e₁, e₂] [] pos) env) Q E s := Call_method2 hbase hs hline h
theorem cw2 {pos : Pos} {id : String} {first : List Value} {a b : Sem Value} (h : wpAny (model prog w) A a (fun v s₁ => wpAny (model prog w) A b (fun u s₂ => wpAny (model prog w) A (call (.builtin id) (first ++ [v, u])) Q E s₂) E s₁) E s) :
    wpAny (model prog w) A (callWith pos (.builtin id) first [(false, a), (false, b)] []) Q E s :=
  Calls.callWith_builtin rfl (Calls.evalArgs_plain (Calls.spliced_cons (wpAny_mono h (fun _ _ h₁ => Calls.spliced_cons (wpAny_mono h₁ (fun _ _ h₂ => Calls.spliced_nil h₂) fun _ _ e => e)) fun _ _ e => e)))
theorem cw1 {pos : Pos} {id : String} {first : List Value} {a : Sem Value} (h : wpAny (model prog w) A a (fun v s₁ => wpAny (model prog w) A (call (.builtin id) (first ++ [v])) Q E s₁) E s) :
    wpAny (model prog w) A (callWith pos (.builtin id) first [(false, a)] []) Q E s :=
  Calls.callWith_builtin rfl (Calls.evalArgs_plain (Calls.spliced_cons (wpAny_mono h (fun _ _ h₁ => Calls.spliced_nil h₁) fun _ _ e => e)))
theorem cw0 {pos : Pos} {id : String} {first : List Value} (h : wpAny (model prog w) A (call (.builtin id) first) Q E s) :
    wpAny (model prog w) A (callWith pos (.builtin id) first [] []) Q E s :=
  Calls.callWith_builtin rfl (PySem.evalArgs_none (by simpa using h))
end

theorem keeps_tok {s : Shared} {k : Nat} : Keeps s { s with toks := k } := ⟨s.heap, k, rfl, fun _ _ e => e⟩
section
variable {prog : Program} {w : World} {A : Around} {s : Shared} {x y z : Str} {t u v : Tok}
theorem q_replace (hu : u ≠ 0) (hv : v ≠ 0) (huv : u ≠ v) (hyz : (y == z) = false) (hx : x.length ≤ 1048576) (hz : z.length ≤ 14) :
    Qt prog w A (call (.builtin "str.replace") [.str x t, .str y u, .str z v]) (fun r _ => ∃ t', r = .str (Txt.replace x y z) t') s :=
  Qt.mk (SC.replaceW hu hv huv hyz hx hz fun t' _ => ⟨⟨t', rfl⟩, keeps_tok⟩)
end

section
variable {prog : Program} {w : World} {A : Around} {E : Value → Shared → Prop} {s₀ s : Shared} {m cm : Str → Option Value} {env : Env} {n : Str}
/-- if 'c' in text: text = text.replace('c', 'z') -/
theorem esc_step {l z : List Nat} {c : Nat} {T : List (Nat × List Nat)} {t : Tok} {y zS : Str} {k1 k2 k3 : Nat} {p1 p2 p3 p4 p5 p6 p7 p8 p9 p10 p11 : Pos} {Q : Flow → Shared → Prop}
    (F : Fs s₀ env.locals m env.cells cm s) (hv : m n = some (.str (S (l.flatMap (spell T))) t)) (htk : 1 ≤ s.toks) (hx : l.length ≤ 100000)
    (h : ∀ s' m' t', Fs s₀ env.locals m' env.cells cm s' → m' n = some (.str (S (l.flatMap (spell (T ++ [(c, z)])))) t') → 1 ≤ s'.toks → Q .next s')
    (hy : y = S [c] := by decide +kernel) (hzS : zS = S z := by decide +kernel) (hyz : (z == [c]) = false := by decide +kernel) (hT : okT T c = true := by decide +kernel) (hL : lenT (T ++ [(c, z)]) = true := by decide +kernel) (hline : (p6.endLine == p9.line) = true := by rfl)
    (hk : env.scope.kind = .function := by rfl) (hl : env.kindOf n = some .local := by rfl) (hd : (n == ("__debug__" : Str)) = false := by decide) :
    wpAny (model prog w) A (exec (.If (.Compare (.Constant (.str y) k1 p1) [.In] [.Name n p2] p3)
      [.Assign [.Name n p4] (.Call (.Attribute (.Name n p5) "replace" p6) [.Constant (.str y) k2 p7, .Constant (.str zS) k3 p8] [] p9) p10] [] p11) env) Q E s := by
  subst hy hzS
  have hLT : lenT T = true := by unfold lenT at hL ⊢; rw [List.all_append, Bool.and_eq_true] at hL; exact hL.1
  have hz : z.length ≤ 6 := by unfold lenT at hL; rw [List.all_append, Bool.and_eq_true] at hL; simpa using hL.2
  have hlen := flat_len (spell_len hLT) l
  have key : Txt.replace (S (l.flatMap (spell T))) (S [c]) (S z) = S (l.flatMap (spell (T ++ [(c, z)]))) := by
    rw [replace_S, flatMap_flatMap]
    congr 2
    funext d; exact spell_snoc hT d
  refine wpAny_If (wpAny_isTrue_Compare1 (Constant_str (nmL (F.k (Kp.tok (Nat.le_succ _))) hv (SB.contains (wpAny_truthy_bool ?_)) hk hl hd)))
  rw [contains_S]
  by_cases hc : c ∈ l.flatMap (spell T)
  · simp only [hc, decide_true, if_true]
    refine wpAny_execs_cons (wpAny_Assign_Name (Call_method2 rfl rfl hline (nmL (F.k (Kp.tok (Nat.le_succ _))) hv (onStr PySem.F.slot_str_replace PySem.F.type_str_replace (cw2 (Constant_str (Constant_str ?_)))) hk hl hd)))
    have hne : (S [c] == S z) = false := by
      cases hq : (S [c] == S z) with
      | false => rfl
      | true => have := S_inj (eq_of_beq hq); subst this; simp at hyz
    refine (q_replace (by dsimp only; show @Ne Nat _ _; omega) (by dsimp only; show @Ne Nat _ _; omega) (by dsimp only; show @Ne Nat _ _; omega) hne (by rw [S_len]; omega) (by rw [S_len]; omega)).then fun r s₁ ⟨t', e⟩ k₁ => ?_
    subst e
    have k₀ : Kp s s₁ := (Kp.tok (by show s.toks ≤ s.toks + 1 + 1 + 1; omega)).trans k₁
    refine stL (F.k k₀) (fun s₂ F₂ u₂ => wpAny_execs_nil (h s₂ _ t' F₂ (by rw [key]; exact Upd.hit) (Nat.le_trans htk (Nat.le_trans k₀.2.2 u₂.2.2)))) hk hl
  · simp only [hc, decide_false, Bool.false_eq_true, if_false]
    refine wpAny_execs_nil (h _ m t (F.k (Kp.tok (Nat.le_succ _))) (by rw [← key, replace_S, flat_not hc]; exact hv) (Nat.le_succ_of_le htk))
end
end Mine
end
section
open PySem PySem.W PyProof.Rows PySem.Calls
namespace Mine

/-- an iterator's object lies there -/
noncomputable def It (s : Shared) (I : Addr) : Prop := ∃ o fs, s.heap.get? I = some o ∧ o.data = .fields fs
theorem Fs.it {s₀ s s' : Shared} {L I : Addr} {m cm : Str → Option Value} {cs : List (Str × Addr)} (F : Fs s₀ L m cs cm s) (h : It s I) (h0 : s₀.heap.get? I = none) (u : Up (· = I) s s') : Fs s₀ L m cs cm s' := by
  obtain ⟨oI, fs, hI, hfs⟩ := h
  have offL : L ≠ I := by
    rintro rfl
    obtain ⟨o, es, ep, ho, hd, _⟩ := F.inC.toInCall.ns
    rw [hI] at ho; cases ho; rw [hfs] at hd; cases hd
  have offC : ∀ n c, cs.lookup n = some c → c ≠ I := by
    rintro n c hc rfl
    obtain ⟨o, ho, hd⟩ := F.inC.cell n c hc
    rw [hI] at ho; cases ho; rw [hfs] at hd; cases hd
  have hu := u.2.1
  obtain ⟨⟨⟨⟨h, tk, rfl⟩, ns, kp, fr⟩, cell, ap, ab⟩, tk0⟩ := F
  obtain ⟨⟨h', tk', rfl⟩, _, t⟩ := u
  refine ⟨⟨⟨⟨h', tk', rfl⟩, ns.at' fun o e => hu L o offL e, fun b o e => ?_, fr⟩, fun n c e => ?_, ap, ab⟩, Nat.le_trans tk0 t⟩
  · exact hu b o (by rintro rfl; rw [h0] at e; cases e) (kp b o e)
  · obtain ⟨o, ho, hd⟩ := cell n c e
    exact ⟨o, hu c o (offC n c e) ho, hd⟩
theorem IsL.it {s s' : Shared} {v vs I} (x : IsL s v vs) (h : It s I) (u : Up (· = I) s s') : IsL s' v vs := by
  obtain ⟨a, e, o, ho, hc, n, hd⟩ := x
  obtain ⟨oI, fs, hI, hfs⟩ := h
  refine ⟨a, e, o, u.2.1 a o ?_ ho, hc, n, hd⟩
  rintro rfl
  rw [hI] at ho; cases ho; rw [hfs] at hd; cases hd
theorem IsT.it {s s' : Shared} {v vs I} (x : IsT s v vs) (h : It s I) (u : Up (· = I) s s') : IsT s' v vs := by
  obtain ⟨a, e, o, ho, hc, n, hd⟩ := x
  obtain ⟨oI, fs, hI, hfs⟩ := h
  refine ⟨a, e, o, u.2.1 a o ?_ ho, hc, n, hd⟩
  rintro rfl
  rw [hI] at ho; cases ho; rw [hfs] at hd; cases hd

/-- the heap and the tokens alone -/
noncomputable def Hk (s s' : Shared) : Prop := (∀ b o, s.heap.get? b = some o → s'.heap.get? b = some o) ∧ s.toks ≤ s'.toks
theorem Kp.hk {s s' : Shared} (k : Kp s s') : Hk s s' := ⟨k.keep, k.2.2⟩
theorem Hk.trans {s s' s'' : Shared} (a : Hk s s') (b : Hk s' s'') : Hk s s'' := ⟨fun x o e => b.1 x o (a.1 x o e), Nat.le_trans a.2 b.2⟩
theorem IsL.hk {s s' : Shared} {v vs} (x : IsL s v vs) (k : Hk s s') : IsL s' v vs := let ⟨a, e, l⟩ := x; ⟨a, e, l.at fun o ho => k.1 a o ho⟩
theorem IsT.hk {s s' : Shared} {v vs} (x : IsT s v vs) (k : Hk s s') : IsT s' v vs := let ⟨a, e, o, ho, r⟩ := x; ⟨a, e, o, k.1 a o ho, r⟩

/-- what can be walked: n items, each as P says -/
noncomputable def Src (prog : Program) (w : World) (xv : Value) (s : Shared) (n : Nat) (P : Nat → Value → Prop) (Y : List Addr) : Prop :=
  ∀ (A : Around) (E : Value → Shared → Prop) (Q : Value → Shared → Prop),
    (∀ I St s₂, (∀ A' : Around, A'.handled = none → Walks prog w A' I (I :: Y) [I] n P St) → St 0 s₂.heap → (∀ i s, St i s.heap → It s I) → (∀ b ∈ I :: Y, b < s₂.heap.objs.size) → Kp s s₂ → s.heap.get? I = none → Q (.ref I) s₂) →
    wpAny (model prog w) A (pyIter xv) Q E s

theorem none_size (h : Heap) : h.get? h.objs.size = none := by
  cases e : h.get? h.objs.size with
  | none => rfl
  | some o => exact absurd (Heap.lt_size e) (Nat.lt_irrefl _)

section
variable {prog : Program} {w : World} {s : Shared}
theorem src_list {a : Addr} {vs : List Value} (h : s.heap.IsList a vs.toArray) : Src prog w (.ref a) s vs.length (fun i v => vs[i]? = some v) [a] := by
  intro A E Q hQ
  have hne : a ≠ s.heap.objs.size := by obtain ⟨o, ho, _⟩ := h; exact Nat.ne_of_lt (Heap.lt_size ho)
  refine wpAny_pyIter_list h (hQ _ (fun i h => h.IsListIter s.heap.objs.size a i ∧ h.IsList a vs.toArray) _ (fun A' hA => ?_) ⟨⟨_, Heap.get?_push_size _ rfl, rfl, rfl⟩, h.push _⟩ ?_ ?_ (Kp.push _) (none_size _))
  · have := Walks.list (prog := prog) (w := w) hA s.heap.objs.size a hne vs.toArray
    simpa using this
  · rintro i s' ⟨⟨o, ho, _, hd⟩, _⟩
    exact ⟨o, _, ho, hd⟩
  · intro b hb
    rw [show ({ s with heap := s.heap.push { cls := .type "list_iterator", data := .fields #[.ref a, .int 0 0] } } : Shared).heap.objs.size = s.heap.objs.size + 1 from Heap.size_push ..]
    rcases List.mem_cons.mp hb with rfl | hb
    · exact Nat.lt_succ_self _
    · rw [List.mem_singleton.mp hb]; obtain ⟨o, ho, _⟩ := h; exact Nat.lt_succ_of_lt (Heap.lt_size ho)
theorem src_str {x : Str} {t : Tok} : Src prog w (.str x t) s x.cps.size (SignAt x) [] := by
  intro A E Q hQ
  have hsz : ∀ o : Obj, ∀ b ∈ [s.heap.objs.size], b < ({ s with heap := s.heap.push o } : Shared).heap.objs.size := by
    intro o b hb
    rw [show ({ s with heap := s.heap.push o } : Shared).heap.objs.size = s.heap.objs.size + 1 from Heap.size_push ..]
    rw [List.mem_singleton.mp hb]; exact Nat.lt_succ_self _
  cases ha : x.cps.all (· < 128)
  · refine wpAny_pyIter_wide ha (hQ _ _ _ (fun A' hA => Walks.strWide hA _ x t) ⟨_, Heap.get?_push_size _ rfl, rfl, rfl⟩ ?_ (hsz _) (Kp.push _) (none_size _))
    rintro i s' ⟨o, ho, _, hd⟩; exact ⟨o, _, ho, hd⟩
  · refine wpAny_pyIter_ascii ha (hQ _ _ _ (fun A' hA => Walks.strAscii hA _ x t) ⟨_, Heap.get?_push_size _ rfl, rfl, rfl⟩ ?_ (hsz _) (Kp.push _) (none_size _))
    rintro i s' ⟨o, ho, _, hd⟩; exact ⟨o, _, ho, hd⟩
theorem src_range {r : Addr} {n : Nat} {t u v : Tok} (hr : IsRange s.heap r 0 n 1 t u v) (hn : n < 1000000) : Src prog w (.ref r) s n (fun i v => ∃ t, v = .int i t) [] := by
  intro A E Q hQ
  have hsz : ∀ o : Obj, ∀ b ∈ [s.heap.objs.size], b < ({ s with heap := s.heap.push o } : Shared).heap.objs.size := by
    intro o b hb
    rw [show ({ s with heap := s.heap.push o } : Shared).heap.objs.size = s.heap.objs.size + 1 from Heap.size_push ..]
    rw [List.mem_singleton.mp hb]; exact Nat.lt_succ_self _
  have hrs : Builtin.Range.rangeSize 0 n 1 = (n : Int) := by rw [rangeSize_nat]; simp
  refine wpAny_pyIter_range hr (small_one (by omega) (by omega) (by omega) (by omega)) (hQ _ (fun i h => IsRangeIter h s.heap.objs.size (0 + (i : Nat) * 1) ((n : Int) - (i : Nat)) 1) _ (fun A' hA => ?_) ?_ ?_ (hsz _) (Kp.push _) (none_size _))
  · have := Walks.range (prog := prog) (w := w) hA s.heap.objs.size 0 1 n
    simpa using this
  · show IsRangeIter _ _ _ _ _
    rw [hrs]; simpa using Heap.get?_push_size _ rfl
  · intro i s' h
    exact ⟨_, _, h, rfl⟩
end

section
variable {prog : Program} {w : World} {A : Around} {s₀ s : Shared} {m cm : Str → Option Value} {env : Env}
/-- a for loop by what holds ahead of its i-th item -/
theorem st_for {target iter : Expr} {body : List Stmt} {pos : Pos} {n : Nat} {P : Nat → Value → Prop} {Y : List Addr} {Q : Flow → Shared → Prop} {E : Value → Shared → Prop} (hA : A.handled = none)
    (X : Addr → Prop) (J : Nat → Shared → Prop)
    (he : Qt prog w A (eval iter env) (fun xv s₁ => Src prog w xv s₁ n P Y) s)
    (hX : ∀ b, X b → b ∉ Y ∧ ∃ o, s.heap.get? b = some o)
    (h0 : ∀ s₁, Kp s s₁ → J 0 s₁)
    (hJ : ∀ I i s₁ s₂, s.heap.get? I = none → J i s₁ → It s₁ I → Up (· = I) s₁ s₂ → J i s₂)
    (turn : ∀ i v s₁, i < n → P i v → J i s₁ → wpAny (model prog w) A (assign target env v) (fun _ s₂ => wpAny (model prog w) A (execs body env) (fun f s₃ => match f with
      | .next | .cont => J (i + 1) s₃ ∧ Up X s₁ s₃ | .brk => False | .ret v => Q (.ret v) s₃) (fun _ _ => False) s₂) (fun _ _ => False) s₁)
    (done : ∀ s₁, J n s₁ → Q .next s₁)
    (hs : ∀ x, foldedSetIterable iter env x = pure x := by intro _; rfl)
    (ht : ∀ I v, letOwnedTupleGo target (.ref I) v = pure () := by intro _ _; rfl) :
    wpAny (model prog w) A (exec (.For target iter body [] pos) env) Q E s := by
  refine wpAny_For (he.then fun xv s₁ hsrc k₁ => hsrc _ _ _ fun I St s₂ hW hst hIt hsz k₂ hI => ?_) hs
  have W := hW A hA
  have hIs : s.heap.get? I = none := by
    cases e : s.heap.get? I with
    | none => rfl
    | some o => have := k₁.keep _ _ e; rw [hI] at this; cases this
  have hXI : ∀ b, X b → b ∉ I :: Y := by
    intro b hb hm
    obtain ⟨hY, o, ho⟩ := hX b hb
    rcases List.mem_cons.mp hm with rfl | hm
    · rw [hIs] at ho; cases ho
    · exact hY hm
  refine codeAny_forLoop_any (fun k s' => ∃ i, i ≤ n ∧ k = n + 1 - i ∧ St i s'.heap ∧ J i s') ?_ (n + 1) ⟨0, Nat.zero_le _, rfl, hst, h0 _ (k₁.trans k₂)⟩
  rintro k s₃ ⟨i, hi, rfl, hst₃, hj⟩
  by_cases hlt : i < n
  · refine wpAny_with_toks (n := s₃.toks) (Nat.le_refl _) (W.item i s₃ _ _ hlt hst₃ fun v h' tk hP hst' hk htk => ?_)
    have u : Up (· = I) s₃ { s₃ with heap := h', toks := tk } := ⟨⟨h', tk, rfl⟩, fun b o hb e => hk b o (fun hm => hb (List.mem_singleton.mp hm)) e, htk⟩
    have hj' := hJ I i _ _ hIs hj (hIt i s₃ hst₃) u
    refine wpAny_of_eq (ht I v) ?_
    refine wpAny_mono (turn i v _ hlt hP hj') (fun _ s₄ h₄ => wpAny_mono h₄ (fun f s₅ h₅ => ?_) fun _ _ x => x.elim) fun _ _ x => x.elim
    have fin : J (i + 1) s₅ ∧ Up X { s₃ with heap := h', toks := tk } s₅ → ∃ m, m < n + 1 - i ∧ ∃ i, i ≤ n ∧ m = n + 1 - i ∧ St i s₅.heap ∧ J i s₅ := by
      rintro ⟨hj₅, u₅⟩
      exact ⟨n + 1 - (i + 1), by omega, i + 1, hlt, rfl, W.frame _ _ _ hst' fun b hb o e => u₅.2.1 b o (fun hx => hXI b hx hb) e, hj₅⟩
    cases f with
    | next => exact fin h₅
    | cont => exact fin h₅
    | brk => exact h₅.elim
    | ret v => exact h₅
  · have hin : i = n := by omega
    subst hin
    refine wpAny_with_toks (n := s₃.toks) (Nat.le_refl _) (W.done s₃ _ _ hst₃ fun h' tk hk htk => ?_)
    refine wpAny_execs_nil (done _ (hJ I i s₃ _ hIs hj (hIt i s₃ hst₃) ⟨⟨h', tk, rfl⟩, fun b o hb e => hk b o (fun hm => hb (List.mem_singleton.mp hm)) e, htk⟩))

/-- a list comprehension (its names may be cells of the def) -/
theorem q_comp {elt iter : Expr} {x : Str} {px : Pos} {ifs : List Expr} {scope : Scope} {cl : List (Str × Addr)} {pos : Pos} {n : Nat} {P : Nat → Value → Prop} {Y : List Addr} (hA : A.handled = none) (hn : n ≤ sizeLine)
    (p : Value → Bool) (F : Value → Value → Prop)
    (he : Qt prog w A (eval iter env) (fun xv s₁ => Src prog w xv s₁ n P Y) s)
    (htest : ∀ C i v s₃ m₃, P i v → s₃.heap.Ns C m₃ → m₃ x = some v → Hk s s₃ →
      Qt prog w A (forIn ifs true fun c r => if r = true then do let ok ← isTrue c (compEnvC scope cl C env) (eval c (compEnvC scope cl C env)); pure (ForInStep.yield ok) else pure (ForInStep.yield r)) (fun ok _ => ok = p v) s₃)
    (helt : ∀ C i v s₃ m₃, P i v → p v = true → s₃.heap.Ns C m₃ → m₃ x = some v → Hk s s₃ → Qt prog w A (eval elt (compEnvC scope cl C env)) (fun y _ => F v y) s₃)
    (hclos : closureFor scope env = pure cl := by rfl) (hcell : ∀ y ∈ scope.names, y.2 ≠ .cell := by decide +kernel) (hkind : scope.kind = .function := by rfl)
    (hnames : ∀ y ∈ scope.names, y.2 = .local → scope.names.lookup y.1 = some .local := by decide +kernel) (hx : scope.names.lookup x = some .local := by rfl)
    (hs : ∀ x, foldedSetIterable iter env x = pure x := by intro _; rfl) :
    Qt prog w A (eval (.ListComp elt [⟨.Name x px, iter, ifs, 0⟩] scope pos) env)
      (fun v s' => ∃ a, v = .ref a ∧ s.heap.get? a = none ∧ ∃ vs ys : List Value, s'.heap.PlainList a ys.toArray ∧ vs.length = n ∧ (∀ j v, vs[j]? = some v → P j v) ∧ Paired F (vs.filter p) ys) s := by
  refine Qt.mk (wpAny_ListComp_free p F hclos hcell hkind hnames hx (he.then fun xv s₁ hsrc k₁ => hsrc _ _ _ fun I St s₂ hW hst hIt hsz k₂ hI => ?_) hs)
  have kk : Kp s s₂ := k₁.trans k₂
  have hIs : s.heap.get? I = none := by
    cases e : s.heap.get? I with
    | none => rfl
    | some o => have := k₁.keep _ _ e; rw [hI] at this; cases this
  have hH : ∀ s₃ : Shared, (∀ b o, b ∉ [I] → s₂.heap.get? b = some o → s₃.heap.get? b = some o) → s₂.toks ≤ s₃.toks → Hk s s₃ := fun s₃ hk htk =>
    ⟨fun b o e => hk b o (by rintro hm; rw [List.mem_singleton.mp hm, hIs] at e; cases e) (kk.keep b o e), Nat.le_trans kk.2.2 htk⟩
  refine ⟨I, I :: Y, [I], n, P, St, rfl, hW A hA, hn, hst, hsz, ⟨?_, ?_⟩, ?_⟩
  · intro C i v s₃ m₃ E' hC hP hns hm hk htk
    exact (htest C i v s₃ m₃ hP hns hm (hH s₃ hk htk)).then fun _ _ a b => ⟨a, b.keeps⟩
  · intro C i v s₃ m₃ E' hC hP hp hns hm hk htk
    exact (helt C i v s₃ m₃ hP hp hns hm (hH s₃ hk htk)).then fun _ _ a b => ⟨a, b.keeps⟩
  · intro D h' tk ys vs hD hl hpl hlen hP hF hk
    obtain ⟨⟨h2, tk2, rfl⟩, kk2, _⟩ := kk
    refine ⟨⟨D, rfl, ?_, vs, ys.toList, by simpa using hpl, hlen, hP, hF⟩, h', tk, rfl, fun b o e => hk b o ?_ (kk2 b o id e)⟩
    · cases e : s.heap.get? D with
      | none => rfl
      | some o => have := kk2 _ _ id e; rw [hD] at this; cases this
    · intro hm; rw [List.mem_singleton.mp hm, hIs] at e; cases e
theorem c_comp {elt iter : Expr} {x : Str} {px : Pos} {ifs : List Expr} {scope : Scope} {cl : List (Str × Addr)} {pos : Pos} {n : Nat} {P : Nat → Value → Prop} {Y : List Addr} {Q : Value → Shared → Prop} {E : Value → Shared → Prop}
    (p : Value → Bool) (F : Value → Value → Prop) (hA : A.handled = none) (hn : n ≤ sizeLine)
    (he : Qt prog w A (eval iter env) (fun xv s₁ => Src prog w xv s₁ n P Y) s)
    (htest : ∀ C i v s₃ m₃, P i v → s₃.heap.Ns C m₃ → m₃ x = some v → Hk s s₃ →
      Qt prog w A (forIn ifs true fun c r => if r = true then do let ok ← isTrue c (compEnvC scope cl C env) (eval c (compEnvC scope cl C env)); pure (ForInStep.yield ok) else pure (ForInStep.yield r)) (fun ok _ => ok = p v) s₃)
    (helt : ∀ C i v s₃ m₃, P i v → p v = true → s₃.heap.Ns C m₃ → m₃ x = some v → Hk s s₃ → Qt prog w A (eval elt (compEnvC scope cl C env)) (fun y _ => F v y) s₃)
    (h : ∀ a s', s.heap.get? a = none → Kp s s' → (∃ vs ys : List Value, s'.heap.PlainList a ys.toArray ∧ vs.length = n ∧ (∀ j v, vs[j]? = some v → P j v) ∧ Paired F (vs.filter p) ys) → Q (.ref a) s')
    (hclos : closureFor scope env = pure cl := by rfl) (hcell : ∀ y ∈ scope.names, y.2 ≠ .cell := by decide +kernel) (hkind : scope.kind = .function := by rfl)
    (hnames : ∀ y ∈ scope.names, y.2 = .local → scope.names.lookup y.1 = some .local := by decide +kernel) (hx : scope.names.lookup x = some .local := by rfl)
    (hs : ∀ x, foldedSetIterable iter env x = pure x := by intro _; rfl) :
    wpAny (model prog w) A (eval (.ListComp elt [⟨.Name x px, iter, ifs, 0⟩] scope pos) env) Q E s :=
  (q_comp hA hn p F he htest helt hclos hcell hkind hnames hx hs).then fun v s' ⟨a, e, ha, r⟩ k => by subst e; exact h a s' ha k r
theorem q_notest {ifs : List Expr} {env : Env} (h : ifs = []) {v : Value} : Qt prog w A (forIn ifs true fun c r => if r = true then do let ok ← isTrue c env (eval c env); pure (ForInStep.yield ok) else pure (ForInStep.yield r)) (fun ok _ => ok = (fun _ => true) v) s := by
  subst h
  exact wpAny_tests_nil ⟨rfl, Kp.rfl'⟩
end
end Mine
end
section
open PySem PySem.W PyProof.Rows PySem.Calls
namespace Mine

structure PSt where
  res : List (List Nat)
  part : List Nat
  esc : Bool
  quo : Bool
noncomputable def pstep (st : PSt) (c : Nat) : PSt :=
  if st.esc then ⟨st.res, st.part ++ [c], false, st.quo⟩
  else if st.quo then
    if c = 92 then ⟨st.res, st.part, true, true⟩
    else ⟨st.res, st.part ++ [c], false, decide (c ≠ 34)⟩
  else if c = 44 then ⟨st.res ++ [st.part], [], false, false⟩
  else ⟨st.res, st.part ++ [c], false, decide (c = 34)⟩
noncomputable def pfold (l : List Nat) : PSt := l.foldl pstep ⟨[], [], false, false⟩
noncomputable def parseR (l : List Nat) : List (List Nat) := (pfold l).res ++ (if (pfold l).part = [] then [] else [(pfold l).part])
noncomputable def parseL (l : List Nat) : List (List Nat) := (parseR l).map (stripL Unicode.isSpace)

theorem pstep_len (st : PSt) (c : Nat) : (pstep st c).part.length ≤ st.part.length + 1 ∧ (pstep st c).res.length ≤ st.res.length + 1 := by
  unfold pstep
  split
  · simp
  · split
    · split <;> simp
    · split <;> simp

section
variable {prog : Program} {w : World} {A : Around} {E : Value → Shared → Prop} {s : Shared}
theorem q_newList {vs : List Value} (h : vs.length ≤ sizeLine) : Qt prog w A (newList vs) (fun v s' => ∃ a, v = .ref a ∧ s.heap.get? a = none ∧ s'.heap.PlainList a vs.toArray) s :=
  wpAny_newObj_type ⟨⟨_, rfl, none_size _, 0, Heap.get?_push_size _ rfl⟩, Kp.push _⟩ (by show vs.toArray.size ≤ sizeLine; simpa using h)
theorem q_iadd {x y : List Nat} {t u : Tok} (h : x.length + y.length ≤ 16777216) : Qt prog w A (inplaceOp .Add (.str (S x) t) (.str (S y) u)) (fun v _ => ∃ t', v = .str (S (x ++ y)) t') s :=
  Qt.mk (SB.iadd (fun t' _ => ⟨⟨t', by rw [S_app]⟩, keeps_tok⟩) (by rw [S_len, S_len, sizeLine_eq]; exact h))
theorem q_truthy {x : List Nat} {t : Tok} (h : x.length ≤ 16777216) : Qt prog w A (truthy (.str (S x) t)) (fun b _ => b = decide (x ≠ [])) s :=
  Qt.mk (P.truthy_str (by rw [S_len]; omega) ⟨by
    rw [S_len]
    cases x with
    | nil => rfl
    | cons a r => simp; omega, keeps_tok⟩)
theorem eq_S {x y : List Nat} {t u : Tok} {Q : Value → Shared → Prop} (h : Q (.bool (decide (x = y))) s) : wpAny (model prog w) A (compareOp .Eq (.str (S x) t) (.str (S y) u)) Q E s := by
  refine P.eq_str ?_
  rw [S_toList, S_toList]
  have : (x == y) = decide (x = y) := by cases h : (x == y) <;> simp_all
  rw [this]; exact h
theorem q_append {r : Addr} {us : List Value} {v : Value} (h : s.heap.PlainList r us.toArray) (hsz : us.length ≤ sizeLine) :
    wpAny (model prog w) A (call (.builtin "list.append") [.ref r, v]) (fun x s' => x = .none ∧ s'.heap.PlainList r (us ++ [v]).toArray ∧ Up (· = r) s s') E s :=
  wpAny_list_append_plain h (fun h' hp hs => ⟨rfl, by simpa using hp, ⟨_, _, rfl⟩, fun b o hb e => hs.extBut b o hb e, Nat.le_refl _⟩) (by simpa using hsz)
theorem onList {name : Str} {id : String} {pos : Pos} {args : List (Bool × Sem Value)} {a : Addr} {its : Array Value} {Q : Value → Shared → Prop} (slot : Slot "list" name id) (ty : typeOf (.builtin id) = pure (.type "method_descriptor"))
    (hl : s.heap.PlainList a its) (h : wpAny (model prog w) A (callWith pos (.builtin id) [.ref a] args []) Q E s) : MethodOnS prog w A E name (.ref a) pos args Q s :=
  ⟨"list", id, PySem.F.plainAttrs_list, slot, ty, hl.isList.typeIs, (fun b e => by cases e; obtain ⟨n, ho⟩ := hl; exact ⟨_, ho, rfl⟩), h⟩
end
theorem PL.up {s₀ s s' : Shared} {L r : Addr} {m cm : Str → Option Value} {cs : List (Str × Addr)} {its : Array Value} (hr : s.heap.PlainList r its) (F : Fs s₀ L m cs cm s) (u : Up (Mx L cs) s s') : s'.heap.PlainList r its := by
  obtain ⟨n, ho⟩ := hr
  exact ⟨n, u.2.1 r _ (F.off ho (by intro _ _ q; cases q) (by intro _ q; cases q)) ho⟩
theorem PL.k {s s' : Shared} {r : Addr} {its : Array Value} (hr : s.heap.PlainList r its) (k : Kp s s') : s'.heap.PlainList r its := hr.at fun o e => k.keep r o e
theorem PL.it {s s' : Shared} {I r : Addr} {its : Array Value} (hr : s.heap.PlainList r its) (h : It s I) (u : Up (· = I) s s') : s'.heap.PlainList r its := by
  obtain ⟨n, ho⟩ := hr
  obtain ⟨o, fs, hI, hf⟩ := h
  exact ⟨n, u.2.1 r _ (by rintro rfl; rw [ho] at hI; cases hI; cases hf) ho⟩
/-- an append leaves the frame -/
theorem Fs.app {s₀ s s' : Shared} {L r : Addr} {m cm : Str → Option Value} {cs : List (Str × Addr)} {its : Array Value} (F : Fs s₀ L m cs cm s) (hr : s.heap.PlainList r its) (h0 : s₀.heap.get? r = none) (u : Up (· = r) s s') : Fs s₀ L m cs cm s' := by
  obtain ⟨n, ho⟩ := hr
  have offL : L ≠ r := by
    rintro rfl
    obtain ⟨o, es, ep, ho', hd, _⟩ := F.inC.toInCall.ns
    rw [ho] at ho'; cases ho'; cases hd
  have offC : ∀ n c, cs.lookup n = some c → c ≠ r := by
    rintro n c hc rfl
    obtain ⟨o, ho', hd⟩ := F.inC.cell n c hc
    rw [ho] at ho'; cases ho'; cases hd
  have hu := u.2.1
  obtain ⟨⟨⟨⟨h, tk, rfl⟩, ns, kp, fr⟩, cell, ap, ab⟩, tk0⟩ := F
  obtain ⟨⟨h', tk', rfl⟩, _, t⟩ := u
  refine ⟨⟨⟨⟨h', tk', rfl⟩, ns.at' fun o e => hu L o offL e, fun b o e => ?_, fr⟩, fun n c e => ?_, ap, ab⟩, Nat.le_trans tk0 t⟩
  · exact hu b o (by rintro rfl; rw [h0] at e; cases e) (kp b o e)
  · obtain ⟨o, ho, hd⟩ := cell n c e
    exact ⟨o, hu c o (offC n c e) ho, hd⟩
theorem Fs.has {s₀ s : Shared} {L : Addr} {m cm : Str → Option Value} {cs : List (Str × Addr)} (F : Fs s₀ L m cs cm s) {b : Addr} (h : Mx L cs b) : ∃ o, s.heap.get? b = some o := by
  rcases h with rfl | ⟨n, hn⟩
  · obtain ⟨o, _, _, ho, _⟩ := F.inC.toInCall.ns; exact ⟨o, ho⟩
  · obtain ⟨o, ho, _⟩ := F.inC.cell n b hn; exact ⟨o, ho⟩
theorem pfold_snoc {l : List Nat} {i c : Nat} (h : (S l).cps[i]? = some c) : pfold (l.take (i + 1)) = pstep (pfold (l.take i)) c := by
  have h' : l[i]? = some c := by simpa using h
  unfold pfold
  rw [List.take_add_one, h', List.foldl_append]; rfl
theorem pfold_lens (l : List Nat) (i : Nat) : (pfold (l.take i)).part.length ≤ i ∧ (pfold (l.take i)).res.length ≤ i := by
  induction i with
  | zero => simp [pfold]
  | succ i ih =>
    cases h : l[i]? with
    | none =>
      have e : l.take (i + 1) = l.take i := by rw [List.take_add_one, h]; simp
      rw [e]; omega
    | some c =>
      have := pstep_len (pfold (l.take i)) c
      rw [pfold_snoc (l := l) (c := c) (by simpa using h)]
      omega
theorem pfold_items (l : List Nat) (i : Nat) : ∀ p ∈ (pfold (l.take i)).res, p.length ≤ i := by
  induction i with
  | zero => simp [pfold]
  | succ i ih =>
    cases h : l[i]? with
    | none =>
      have e : l.take (i + 1) = l.take i := by rw [List.take_add_one, h]; simp
      rw [e]; intro p hp; have := ih p hp; omega
    | some c =>
      have hl := (pfold_lens l i).1
      rw [pfold_snoc (l := l) (c := c) (by simpa using h)]
      intro p hp
      unfold pstep at hp
      split at hp
      · have := ih p hp; omega
      · split at hp
        · split at hp <;> (have := ih p hp; omega)
        · split at hp
          · rcases List.mem_append.mp hp with hp | hp
            · have := ih p hp; omega
            · rw [List.mem_singleton.mp hp]; omega
          · have := ih p hp; omega
theorem parseR_items (l : List Nat) : ∀ p ∈ parseR l, p.length ≤ l.length := by
  have h1 := pfold_items l l.length
  have h2 := (pfold_lens l l.length).1
  rw [List.take_length] at h1 h2
  intro p hp
  unfold parseR at hp
  rcases List.mem_append.mp hp with hp | hp
  · exact h1 p hp
  · split at hp
    · simp at hp
    · rw [List.mem_singleton.mp hp]; exact h2
theorem parseR_length (l : List Nat) : (parseR l).length ≤ l.length + 1 := by
  have h2 := (pfold_lens l l.length).2
  rw [List.take_length] at h2
  unfold parseR
  split <;> simp <;> omega

theorem strs_at {vs : List Value} {ps : List (List Nat)} : StrsAre vs (ps.map S) → ∀ {i : Nat} {v : Value}, vs[i]? = some v → ∃ x t, v = .str (S x) t ∧ x ∈ ps ∧ ps[i]? = some x := by
  intro h
  generalize hq : ps.map S = qs at h
  induction h generalizing ps with
  | nil => intro i v hv; simp at hv
  | cons y t h ih =>
    cases ps with
    | nil => cases hq
    | cons p r =>
      cases hq
      intro i v hv
      cases i with
      | zero => simp at hv; exact ⟨p, t, hv.symm, by simp, by simp⟩
      | succ i => obtain ⟨x, t', a, b, c⟩ := ih rfl (i := i) (v := v) (by simpa using hv); exact ⟨x, t', a, by simp [b], by simpa using c⟩
theorem same_items {α : Type} {vs us : List α} (hl : us.length = vs.length) (h : ∀ (j : Nat) v, us[j]? = some v → vs[j]? = some v) : us = vs := by
  refine List.ext_getElem? fun j => ?_
  cases e : us[j]? with
  | some v => exact (h j v e).symm
  | none =>
    have : us.length ≤ j := by simpa using e
    rw [hl] at this
    exact (List.getElem?_eq_none this).symm
/-- what a comprehension makes of texts -/
noncomputable def ToS (f : List Nat → List Nat) (v y : Value) : Prop := ∀ x t, v = .str (S x) t → ∃ t', y = .str (S (f x)) t'
theorem paired_strs {f : List Nat → List Nat} {vs ys : List Value} {ps : List (List Nat)} (h : StrsAre vs (ps.map S)) (hp : Paired (ToS f) vs ys) : StrsAre ys ((ps.map f).map S) := by
  induction hp generalizing ps with
  | nil => cases ps with
    | nil => exact .nil
    | cons p r => cases h
  | cons hab _ ih =>
    cases ps with
    | nil => cases h
    | cons p r =>
      cases h with
      | cons y t h =>
        obtain ⟨t', rfl⟩ := hab p t rfl
        exact .cons _ _ (ih h)
theorem filter_all {α : Type} (l : List α) : l.filter (fun _ => true) = l := by induction l <;> simp_all

section
variable {prog : Program} {w : World} {A : Around} {E : Value → Shared → Prop} {s : Shared} {m : Str → Option Value} {env : Env} {n : Str} {v : Value}
theorem nmN {pos : Pos} {Q : Value → Shared → Prop} (hns : s.heap.Ns env.locals m) (hv : m n = some v) (h : Q v s)
    (hk : env.scope.kind = .function := by rfl) (hl : env.kindOf n = some .local := by rfl) (hd : (n == ("__debug__" : Str)) = false := by decide) :
    wpAny (model prog w) A (eval (.Name n pos) env) Q E s := wpAny_Name (wpAny_loadName_local hk hl hns hv h) hd
theorem q_strip {x : List Nat} {t : Tok} (h : x.length ≤ 16777216) : Qt prog w A (call (.builtin "str.strip") [.str (S x) t]) (fun v _ => ∃ t', v = .str (S (stripL Unicode.isSpace x)) t') s :=
  Qt.mk (SC.strip (fun t' _ => ⟨⟨t', by rw [strip_S]⟩, keeps_tok⟩) (by rw [S_len, sizeLine_eq]; exact h))
end
end Mine
end
section
open PySem PySem.W PyProof.Rows PySem.Calls
namespace Mine

theorem strs_of_values : ∀ (l : List (Str × Tok)), StrsAre (strValues l) (l.map (·.1))
  | [] => .nil
  | (x, t) :: r => .cons _ _ (strs_of_values r)

section
variable {prog : Program} {w : World} {A : Around} {E : Value → Shared → Prop} {s : Shared}
theorem q_split {l : List Nat} {c : Nat} {t u : Tok} (h : l.length + 2 ≤ 16777216) : Qt prog w A (call (.builtin "str.split") [.str (S l) t, .str (S [c]) u])
    (fun v s' => ∃ a vs, v = .ref a ∧ s'.heap.IsList a vs.toArray ∧ StrsAre vs ((splitL c l).map S)) s := by
  refine Qt.mk (SCH.split1 (P := fun h' => ∀ b o, s.heap.get? b = some o → h'.get? b = some o) (fun h' ob hk b o e => Heap.get?_push_of_some _ (hk b o e)) (fun _ _ e => e) rfl ?_ (by rw [S_len, sizeLine_eq]; omega) ?_)
  · intro D vs h' k e hk hl
    refine ⟨⟨D, strValues vs, rfl, hl, ?_⟩, h', k, rfl, hk⟩
    rw [← split_S, ← e]; exact strs_of_values vs
  · have := StrLaws.occ_length_le_len (S l) (S [c]) 0 (S l).length ((S l).length + 1)
    rw [length_partsBetween, sizeLine_eq]
    rw [S_len] at *
    omega
theorem splitMax_S {a b : List Nat} {c : Nat} (h : c ∉ a) : Txt.splitMax (S (a ++ c :: b)) (S [c]) 1 = [S a, S b] := by
  have hm : c ∈ a ++ c :: b := by simp
  have hat : ∀ i, StrLaws.At (S (a ++ c :: b)) (S [c]) (S (a ++ c :: b)).length i ↔ (a ++ c :: b)[i]? = some c := by
    intro i
    have := StrLaws.subAt_one (S (a ++ c :: b)) c i
    rw [S_toList] at this
    exact this
  have h1 : (decide ((S (a ++ c :: b)).length < (S [c]).length) || decide (Builtin.Str.strKind (S (a ++ c :: b)) < Builtin.Str.strKind (S [c]))) = false := by
    rw [Bool.or_eq_false_iff]
    refine ⟨decide_eq_false ?_, decide_eq_false fun hk => ?_⟩
    · rw [S_len, S_len]; simp
    · have := StrLaws.kind_free (S (a ++ c :: b)) c hk
      rw [S_toList] at this; exact this hm
  have hocc : Builtin.Str.occurrences (S (a ++ c :: b)) (S [c]) 0 (S (a ++ c :: b)).length 1 = [a.length] := by
    rcases StrLaws.occ_head (S (a ++ c :: b)) (S [c]) 1 (Nat.le_refl _) with ⟨_, hn⟩ | ⟨i, r, e, hi, hmin⟩
    · exact absurd ((hat a.length).mpr (by simp)) (hn a.length)
    · have hlen := StrLaws.occ_length_le (S (a ++ c :: b)) (S [c]) 0 (S (a ++ c :: b)).length 1
      rw [e] at hlen ⊢
      have hr : r = [] := by cases r with | nil => rfl | cons x y => simp at hlen
      subst hr
      have hi' := (hat i).mp hi
      congr 1
      rcases Nat.lt_trichotomy i a.length with hlt | heq | hgt
      · exfalso
        rw [List.getElem?_append_left hlt] at hi'
        exact h (List.mem_of_getElem? hi')
      · exact heq
      · exact absurd ((hat a.length).mpr (by simp)) (hmin a.length hgt)
  unfold Txt.splitMax
  rw [h1]
  have hlim : limitOf (S (a ++ c :: b)) 1 = 1 := rfl
  rw [hlim, hocc]
  simp only [Bool.false_eq_true, if_false, List.isEmpty_cons]
  rw [StrLaws.partsBetween_eq]
  show [Builtin.Str.strSub (S (a ++ c :: b)) 0 a.length, Builtin.Str.strSub (S (a ++ c :: b)) (a.length + (S [c]).length) (S (a ++ c :: b)).length] = _
  congr 1
  · refine ofL ?_
    rw [StrLaws.strSub_toList, S_toList]; simp
  · congr 1
    refine ofL ?_
    rw [StrLaws.strSub_toList, S_toList, S_len, S_len]
    rw [show a.length + [c].length = a.length + 1 from rfl, ← List.drop_drop]
    simp
    rw [List.take_of_length_le]; omega
theorem q_split1 {a b : List Nat} {c : Nat} {t u v : Tok} (hc : c ∉ a) (h : (a ++ c :: b).length + 2 ≤ 16777216) : Qt prog w A (call (.builtin "str.split") [.str (S (a ++ c :: b)) t, .str (S [c]) u, .int 1 v])
    (fun v s' => ∃ d t1 t2, v = .ref d ∧ s'.heap.IsList d [.str (S a) t1, .str (S b) t2].toArray) s := by
  have hsp := splitMax_S (b := b) hc
  have hk : (decide ((1 : Int) < -(2 ^ 63 : Int)) || decide ((1 : Int) ≥ 2 ^ 63)) = false := by decide
  unfold Txt.splitMax at hsp
  split at hsp
  · exact absurd (congrArg List.length hsp) (by simp)
  · rename_i h1
    split at hsp
    · exact absurd (congrArg List.length hsp) (by simp)
    · rename_i hf
      refine Qt.mk (call_meets PySem.F.slot_str_split (typeIs_str _ _ _) PySem.F.entry_str_split (PySem.F.args_str_split_3 _ _ _) (meets_str_split_sep_max (S (a ++ c :: b)) (S [c]) 1 t u v hk (by simpa using h1) rfl (by simpa using hf) (by rw [S_len, sizeLine_eq]; omega) (by rw [hsp, sizeLine_eq]; simp)) ?_)
      rw [hsp]
      exact ⟨⟨_, s.toks, s.toks + 1, rfl, ⟨_, Heap.get?_push_size _ rfl, rfl, _, rfl⟩⟩, _, _, rfl, fun _ _ e => Heap.get?_push_of_some _ e⟩
theorem q_add {x y : List Nat} {t u : Tok} (h : x.length + y.length ≤ 16777216) : Qt prog w A (binaryOp .Add (.str (S x) t) (.str (S y) u)) (fun v _ => ∃ t', v = .str (S (x ++ y)) t') s :=
  Qt.mk (SB.add (fun t' _ => ⟨⟨t', by rw [S_app]⟩, keeps_tok⟩) (by rw [S_len, S_len, sizeLine_eq]; exact h))
theorem slice_last (l : List Nat) : Txt.slice (S l) (some (-1)) none = S (l.drop (l.length - 1)) := by
  cases l with
  | nil => decide +kernel
  | cons a r =>
    have h := StrLaws.sliceText_from_neg (x := S (a :: r)) (i := -1) (by omega) (by rw [S_len]; simp; omega)
    show StrLaws.sliceText (S (a :: r)) (some (-1)) none = _
    rw [h]
    refine congrArg S ?_
    rw [S_toList, S_len]
    rw [List.take_of_length_le]
    · congr 1; simp; omega
    · simp; omega
theorem slice_init (l : List Nat) : Txt.slice (S l) none (some (-1)) = S l.dropLast := by
  cases l with
  | nil => decide +kernel
  | cons a r =>
    have h := StrLaws.sliceText_to_neg (x := S (a :: r)) (j := -1) (by omega) (by rw [S_len]; simp; omega)
    show StrLaws.sliceText (S (a :: r)) none (some (-1)) = _
    rw [h]
    refine congrArg S ?_
    rw [S_toList, S_len, List.drop_zero, List.dropLast_eq_take]
    congr 1; simp; omega
theorem q_addL {a b : Addr} {vs ws : List Value} (hl : s.heap.IsList a vs.toArray) (hb : s.heap.IsList b ws.toArray) (hsz : vs.length + ws.length ≤ 16777216) :
    Qt prog w A (binaryOp .Add (.ref a) (.ref b)) (fun v s' => ∃ d, v = .ref d ∧ s.heap.get? d = none ∧ s'.heap.PlainList d (vs ++ ws).toArray) s := by
  obtain ⟨⟨cls, dd, data, sl⟩, ho, hc, n, hd⟩ := id hl
  obtain ⟨⟨cls2, dd2, data2, sl2⟩, ho2, hc2, n2, hd2⟩ := id hb
  simp only at hc hd hc2 hd2
  subst hc hd hc2 hd2
  have e : vs.toArray ++ ws.toArray = (vs ++ ws).toArray := by simp
  refine Qt.mk (concat_meets ⟨_, ho, rfl⟩ ⟨_, ho2, rfl⟩ noFill_list_add seq_list_add PySem.F.slot_list_add PySem.F.entry_list_add (PySem.F.args_list_add_2 _ _) (list_addW a b vs.toArray ws.toArray n n2 dd dd2 sl sl2 (by rw [sizeLine_eq]; simpa using hsz)) ⟨ho, ho2, ?_⟩)
  rw [e]
  exact ⟨⟨_, rfl, none_size _, 0, Heap.get?_push_size _ rfl⟩, _, _, rfl, fun _ _ e => Heap.get?_push_of_some _ e⟩
end
theorem strs_take {vs : List Value} {ps : List (List Nat)} (h : StrsAre vs (ps.map S)) (n : Nat) : StrsAre (vs.take n) ((ps.take n).map S) := by
  generalize hq : ps.map S = qs at h
  induction h generalizing ps n with
  | nil => cases ps with
    | nil => simp; exact .nil
    | cons p r => cases hq
  | cons y t h ih =>
    cases ps with
    | nil => cases hq
    | cons p r =>
      cases hq
      cases n with
      | zero => exact .nil
      | succ n => exact .cons _ _ (ih n rfl)

theorem strs_signs {l : List Nat} {vs : List Value} (hl : vs.length = l.length) (hP : ∀ (j : Nat) v, vs[j]? = some v → SignAt (S l) j v) : StrsAre vs ((l.map fun c => [c]).map S) := by
  induction l generalizing vs with
  | nil => cases vs with
    | nil => exact .nil
    | cons v r => cases hl
  | cons c r ih =>
    cases vs with
    | nil => cases hl
    | cons v vs =>
      obtain ⟨c', u, hc, rfl⟩ := hP 0 v rfl
      have e : c' = c := by simpa using hc.symm
      subst e
      exact .cons _ _ (ih (by simpa using hl) fun j v hv => by
        obtain ⟨c'', u', h1, h2⟩ := hP (j + 1) v hv
        exact ⟨c'', u', by simpa using h1, h2⟩)
end Mine
end
section
open PySem PySem.W PyProof.Rows PySem.Calls
namespace Mine

/-- ab written as z, from the left -/
noncomputable def rep2 (a b z : Nat) : List Nat → List Nat
  | [] => []
  | [x] => [x]
  | x :: y :: r => if x = a ∧ y = b then z :: rep2 a b z r else x :: rep2 a b z (y :: r)
noncomputable def Occ (a b : Nat) (l : List Nat) (i : Nat) : Prop := l[i]? = some a ∧ l[i + 1]? = some b
theorem rep2_none (a b z : Nat) : ∀ l : List Nat, (∀ i, ¬ Occ a b l i) → rep2 a b z l = l
  | [], _ => rfl
  | [x], _ => rfl
  | x :: y :: r, h => by
    have h0 := h 0
    have hn : ¬ (x = a ∧ y = b) := fun q => h0 ⟨by simp [q.1], by simp [q.2]⟩
    unfold rep2
    rw [if_neg hn, rep2_none a b z (y :: r) fun i hi => h (i + 1) ⟨by simpa using hi.1, by simpa using hi.2⟩]
theorem rep2_app (a b z : Nat) (r : List Nat) : ∀ p : List Nat, (∀ i, i < p.length → ¬ Occ a b (p ++ a :: b :: r) i) → rep2 a b z (p ++ a :: b :: r) = p ++ z :: rep2 a b z r
  | [], _ => by simp [rep2]
  | [x], h => by
    have h0 := h 0 (by simp)
    have hn : ¬ (x = a ∧ a = b) := fun q => h0 ⟨by simp [q.1], by simp [q.2]⟩
    show rep2 a b z (x :: a :: b :: r) = x :: z :: rep2 a b z r
    rw [show rep2 a b z (x :: a :: b :: r) = if x = a ∧ a = b then z :: rep2 a b z (b :: r) else x :: rep2 a b z (a :: b :: r) from rfl, if_neg hn]
    simp [rep2]
  | x :: y :: p, h => by
    have h0 := h 0 (by simp)
    have hn : ¬ (x = a ∧ y = b) := fun q => h0 ⟨by simp [q.1], by simp [q.2]⟩
    have ih := rep2_app a b z r (y :: p) fun i hi hq => h (i + 1) (by simpa using hi) ⟨by simpa using hq.1, by simpa using hq.2⟩
    show rep2 a b z (x :: y :: (p ++ a :: b :: r)) = x :: y :: (p ++ z :: rep2 a b z r)
    rw [show rep2 a b z (x :: y :: (p ++ a :: b :: r)) = if x = a ∧ y = b then z :: rep2 a b z (p ++ a :: b :: r) else x :: rep2 a b z (y :: (p ++ a :: b :: r)) from rfl, if_neg hn]
    congr 1
theorem at_occ (l : List Nat) (a b i : Nat) : StrLaws.At (S l) (S [a, b]) (S l).length i ↔ Occ a b l i := by
  unfold StrLaws.At Occ
  rw [StrLaws.subAt_eq, S_toList, S_len, S_len, S_toList]
  show i + 2 ≤ l.length ∧ ((l.drop i).take 2 == [a, b]) = true ↔ _
  rw [beq_iff_eq]
  constructor
  · rintro ⟨h1, h2⟩
    have e1 := congrArg (fun l => l[0]?) h2
    have e2 := congrArg (fun l => l[1]?) h2
    simp [List.getElem?_take, List.getElem?_drop] at e1 e2
    exact ⟨e1, e2⟩
  · rintro ⟨h1, h2⟩
    have hl : i + 1 < l.length := (List.getElem?_eq_some_iff.mp h2).1
    refine ⟨by omega, ?_⟩
    refine List.ext_getElem? fun j => ?_
    match j with
    | 0 => simp [List.getElem?_take, List.getElem?_drop, h1]
    | 1 => simp [List.getElem?_take, List.getElem?_drop, h2]
    | j + 2 => simp [List.getElem?_take]; omega
theorem rep2_join (l : List Nat) (a b z : Nat) : ∀ (cuts : List Nat) (k f : Nat), StrLaws.ChainG (S l) (S [a, b]) (S l).length k cuts f → (∀ i, f ≤ i → ¬ StrLaws.At (S l) (S [a, b]) (S l).length i) →
    Str.join (S [z]) (StrLaws.partsFrom (S l) (S [a, b]).length k cuts) = S (rep2 a b z (l.drop k))
  | [], k, f, h, hn => by
    have e : f = k := h
    subst e
    have e1 : rep2 a b z (l.drop f) = l.drop f := rep2_none a b z _ fun i hi => hn (f + i) (by omega) ((at_occ l a b (f + i)).mpr ⟨by simpa using hi.1, by have := hi.2; rw [List.getElem?_drop] at this; exact this⟩)
    rw [e1]
    show Builtin.Str.strSub (S l) f (S l).length = _
    refine ofL ?_
    rw [StrLaws.strSub_toList, S_toList, S_len, List.take_of_length_le]
    simp
  | c :: r, k, f, h, hn => by
    obtain ⟨h1, h2, h3, h4⟩ := h
    have ih := rep2_join l a b z r _ f h4 hn
    have hoc := (at_occ l a b c).mp h2
    have hlt : c + 1 < l.length := (List.getElem?_eq_some_iff.mp hoc.2).1
    have ed : l.drop k = (l.drop k).take (c - k) ++ a :: b :: l.drop (c + 2) := by
      have e1 : l.drop c = a :: b :: l.drop (c + 2) := by
        rw [List.drop_eq_getElem_cons (by omega : c < l.length), List.drop_eq_getElem_cons (by omega : c + 1 < l.length)]
        have q1 := hoc.1
        have q2 := hoc.2
        rw [List.getElem?_eq_getElem (by omega)] at q1 q2
        rw [Option.some.inj q1, Option.some.inj q2]
      have e2 := List.take_append_drop (c - k) (l.drop k)
      rw [List.drop_drop, show k + (c - k) = c from by omega, e1] at e2
      exact e2.symm
    have hne : StrLaws.partsFrom (S l) (S [a, b]).length (c + (S [a, b]).length) r ≠ [] := by
      obtain ⟨p, q, e⟩ := StrLaws.partsFrom_ne (S l) (S [a, b]).length (c + (S [a, b]).length) r
      rw [e]; simp
    have ej : Str.join (S [z]) (StrLaws.partsFrom (S l) (S [a, b]).length k (c :: r)) = Builtin.Str.strSub (S l) k c ++ S [z] ++ Str.join (S [z]) (StrLaws.partsFrom (S l) (S [a, b]).length (c + (S [a, b]).length) r) := by
      show Str.join (S [z]) (Builtin.Str.strSub (S l) k c :: StrLaws.partsFrom (S l) (S [a, b]).length (c + (S [a, b]).length) r) = _
      cases hq : StrLaws.partsFrom (S l) (S [a, b]).length (c + (S [a, b]).length) r with
      | nil => exact absurd hq hne
      | cons p q => rfl
    rw [ej, ih]
    have es : Builtin.Str.strSub (S l) k c = S ((l.drop k).take (c - k)) := ofL (by rw [StrLaws.strSub_toList, S_toList])
    rw [es, S_app, S_app]
    congr 1
    have hl : ((l.drop k).take (c - k)).length = c - k := by rw [List.length_take, List.length_drop]; omega
    conv => rhs; rw [ed]
    rw [rep2_app a b z _ _ fun i hi hq => ?_]
    · simp [S_len]
    · rw [← ed] at hq
      rw [hl] at hi
      exact h3 (k + i) (by omega) (by omega) ((at_occ l a b (k + i)).mpr ⟨by simpa using hq.1, by have := hq.2; rw [List.getElem?_drop] at this; exact this⟩)
theorem replace2_S (l : List Nat) (a b z : Nat) : Txt.replace (S l) (S [a, b]) (S [z]) = S (rep2 a b z l) := by
  obtain ⟨f, hf, hn⟩ := StrLaws.occ_tight (S l) (S [a, b]) (by rw [S_len]; simp)
  have hj := rep2_join l a b z _ 0 f hf hn
  rw [List.drop_zero] at hj
  unfold Txt.replace
  split
  · rename_i h
    have he : Builtin.Str.occurrences (S l) (S [a, b]) 0 (S l).length ((S l).length + 1) = [] := by
      have h2 : Builtin.Str.occurrences (S l) (S [a, b]) 0 (S l).length ((S l).length + 1) = [] ∨ (S [a, b]).length = 0 ∧ (S [z]).length = 0 := by simpa using h
      rcases h2 with h2 | h2
      · exact h2
      · exact absurd h2.1 (by rw [S_len]; simp)
    rw [he] at hj
    rw [← hj]
    show S l = Builtin.Str.strSub (S l) 0 (S l).length
    exact (StrLaws.sub_whole _).symm
  · rw [StrLaws.glued_eq_join, StrLaws.partsBetween_eq]; exact hj

/-- the two marks of what stands behind a quote -/
noncomputable def mkm : List Nat → List Nat
  | [] => []
  | [x] => [x]
  | x :: y :: r => if x = 92 ∧ y = 92 then 2 :: mkm r else if x = 92 ∧ y = 34 then 1 :: mkm r else x :: mkm (y :: r)
theorem rep2_cons_ne {a b z x : Nat} (h : x ≠ a) (R : List Nat) : rep2 a b z (x :: R) = x :: rep2 a b z R := by
  cases R with
  | nil => rfl
  | cons y R => rw [show rep2 a b z (x :: y :: R) = if x = a ∧ y = b then z :: rep2 a b z R else x :: rep2 a b z (y :: R) from rfl, if_neg fun q => h q.1]
theorem rep2_eq (a b z x y : Nat) (r : List Nat) : rep2 a b z (x :: y :: r) = if x = a ∧ y = b then z :: rep2 a b z r else x :: rep2 a b z (y :: r) := rfl
theorem mkm_eq (x y : Nat) (r : List Nat) : mkm (x :: y :: r) = if x = 92 ∧ y = 92 then 2 :: mkm r else if x = 92 ∧ y = 34 then 1 :: mkm r else x :: mkm (y :: r) := rfl
theorem mkm_rep : ∀ (n : Nat) (l : List Nat), l.length ≤ n → rep2 92 34 1 (rep2 92 92 2 l) = mkm l
  | _, [], _ => rfl
  | _, [x], _ => rfl
  | 0, _ :: _ :: _, h => by simp at h
  | n + 1, x :: y :: r, h => by
    have hr : r.length ≤ n := by simp at h; omega
    have hyr : (y :: r).length ≤ n := by simp at h ⊢; omega
    rw [mkm_eq, rep2_eq]
    by_cases h1 : x = 92 ∧ y = 92
    · rw [if_pos h1, if_pos h1, rep2_cons_ne (by decide), mkm_rep n r hr]
    · rw [if_neg h1, if_neg h1]
      by_cases h2 : x = 92 ∧ y = 34
      · rw [if_pos h2]
        obtain ⟨rfl, rfl⟩ := h2
        rw [rep2_cons_ne (a := 92) (by decide : (34 : Nat) ≠ 92), rep2_eq, if_pos ⟨rfl, rfl⟩, mkm_rep n r hr]
      · rw [if_neg h2]
        by_cases hx : x = 92
        · subst hx
          have hy92 : y ≠ 92 := fun e => h1 ⟨rfl, e⟩
          have hy34 : y ≠ 34 := fun e => h2 ⟨rfl, e⟩
          have ih := mkm_rep n (y :: r) hyr
          rw [rep2_cons_ne (a := 92) hy92] at ih ⊢
          rw [rep2_eq, if_neg fun q => hy34 q.2, ih]
        · rw [rep2_cons_ne hx, mkm_rep n (y :: r) hyr]
/-- the marks undone -/
noncomputable def um (l : List Nat) : List Nat := (l.flatMap fun d => if d = 1 then [92, 34] else [d]).flatMap fun d => if d = 2 then [92, 92] else [d]
theorem um_app (a b : List Nat) : um (a ++ b) = um a ++ um b := by unfold um; rw [List.flatMap_append, List.flatMap_append]
theorem um_cons (x : Nat) (r : List Nat) : um (x :: r) = um [x] ++ um r := um_app [x] r
theorem um_one {x : Nat} (h1 : x ≠ 1) (h2 : x ≠ 2) : um [x] = [x] := by simp [um, h1, h2]
theorem um_mk : ∀ (n : Nat) (l : List Nat), l.length ≤ n → 1 ∉ l → 2 ∉ l → um (mkm l) = l
  | _, [], _, _, _ => rfl
  | _, [x], _, h1, h2 => um_one (by rintro rfl; simp at h1) (by rintro rfl; simp at h2)
  | 0, _ :: _ :: _, h, _, _ => by simp at h
  | n + 1, x :: y :: r, h, h1, h2 => by
    have hr : r.length ≤ n := by simp at h; omega
    have hyr : (y :: r).length ≤ n := by simp at h ⊢; omega
    have r1 : 1 ∉ r := fun q => h1 (by simp [q])
    have r2 : 2 ∉ r := fun q => h2 (by simp [q])
    rw [mkm_eq]
    by_cases c1 : x = 92 ∧ y = 92
    · rw [if_pos c1, um_cons, um_mk n r hr r1 r2, c1.1, c1.2]; rfl
    · rw [if_neg c1]
      by_cases c2 : x = 92 ∧ y = 34
      · rw [if_pos c2, um_cons, um_mk n r hr r1 r2, c2.1, c2.2]; rfl
      · rw [if_neg c2, um_cons, um_mk n (y :: r) hyr (fun q => h1 (List.mem_cons_of_mem _ q)) (fun q => h2 (List.mem_cons_of_mem _ q)),
          um_one (by rintro rfl; simp at h1) (by rintro rfl; simp at h2)]; rfl

noncomputable def run (st : PSt) (l : List Nat) : PSt := l.foldl pstep st
theorem run_cons (st : PSt) (c : Nat) (l : List Nat) : run st (c :: l) = run (pstep st c) l := rfl
theorem run_app (st : PSt) (a b : List Nat) : run st (a ++ b) = run (run st a) b := by unfold run; rw [List.foldl_append]
noncomputable def d12 (c : Nat) : Nat := if c = 1 then 34 else if c = 2 then 92 else c
/-- what quoted marks say -/
noncomputable def dec (l : List Nat) : List Nat := (l.filter (· != 92)).map d12
theorem dec_cons {x : Nat} (h : x ≠ 92) (l : List Nat) : dec (x :: l) = d12 x :: dec l := by simp [dec, h]
theorem dec_92 (l : List Nat) : dec (92 :: l) = dec l := by simp [dec]
theorem d12_of {x : Nat} (h1 : x ≠ 1) (h2 : x ≠ 2) : d12 x = x := by simp [d12, h1, h2]

/-- a quoted stretch, read -/
theorem quoted : ∀ (n : Nat) (b : List Nat), b.length ≤ n → 1 ∉ b → 2 ∉ b → ∀ (rs : List (List Nat)) (pt : List Nat),
    (∃ inner left pre, mkm b = inner ++ 34 :: left ∧ 34 ∉ inner ∧ b = pre ++ 34 :: um left ∧ run ⟨rs, pt, false, true⟩ (pre ++ [34]) = ⟨rs, pt ++ dec inner ++ [34], false, false⟩) ∨
    (34 ∉ mkm b ∧ ∃ e, run ⟨rs, pt, false, true⟩ b = ⟨rs, pt ++ dec (mkm b), e, true⟩)
  | _, [], _, _, _, rs, pt => .inr ⟨by simp [mkm], false, by simp [run, mkm, dec]⟩
  | _, [x], _, h1, h2, rs, pt => by
    have x1 : x ≠ 1 := by rintro rfl; simp at h1
    have x2 : x ≠ 2 := by rintro rfl; simp at h2
    by_cases e34 : x = 34
    · subst e34
      exact .inl ⟨[], [], [], rfl, by simp, rfl, by simp [run, pstep, dec]⟩
    · by_cases e92 : x = 92
      · subst e92
        exact .inr ⟨by simp [mkm], true, by simp [run, pstep, mkm, dec]⟩
      · refine .inr ⟨by simp [mkm]; omega, false, ?_⟩
        simp [run, pstep, mkm, dec, e92, e34, d12_of x1 x2]
  | 0, _ :: _ :: _, h, _, _, _, _ => by simp at h
  | n + 1, x :: y :: r, h, h1, h2, rs, pt => by
    have hr : r.length ≤ n := by simp at h; omega
    have hyr : (y :: r).length ≤ n := by simp at h ⊢; omega
    have r1 : 1 ∉ r := fun q => h1 (by simp [q])
    have r2 : 2 ∉ r := fun q => h2 (by simp [q])
    have x1 : x ≠ 1 := by rintro rfl; simp at h1
    have x2 : x ≠ 2 := by rintro rfl; simp at h2
    have yr1 : 1 ∉ y :: r := fun q => h1 (List.mem_cons_of_mem _ q)
    have yr2 : 2 ∉ y :: r := fun q => h2 (List.mem_cons_of_mem _ q)
    rw [mkm_eq]
    by_cases c1 : x = 92 ∧ y = 92
    · obtain ⟨rfl, rfl⟩ := c1
      rw [if_pos ⟨rfl, rfl⟩]
      have hs : ∀ t, run ⟨rs, pt, false, true⟩ (92 :: 92 :: t) = run ⟨rs, pt ++ [92], false, true⟩ t := fun t => by rw [run_cons, run_cons]; rfl
      rcases quoted n r hr r1 r2 rs (pt ++ [92]) with ⟨inner, left, pre, e1, e2, e3, e4⟩ | ⟨e1, e, e2⟩
      · refine .inl ⟨2 :: inner, left, 92 :: 92 :: pre, by rw [e1]; rfl, by simpa using e2, by rw [e3]; rfl, ?_⟩
        show run _ (92 :: 92 :: (pre ++ [34])) = _
        rw [hs, e4, dec_cons (by decide)]; simp [d12]
      · refine .inr ⟨by simpa using e1, e, ?_⟩
        rw [hs, e2, dec_cons (by decide)]; simp [d12]
    · rw [if_neg c1]
      by_cases c2 : x = 92 ∧ y = 34
      · obtain ⟨rfl, rfl⟩ := c2
        rw [if_pos ⟨rfl, rfl⟩]
        have hs : ∀ t, run ⟨rs, pt, false, true⟩ (92 :: 34 :: t) = run ⟨rs, pt ++ [34], false, true⟩ t := fun t => by rw [run_cons, run_cons]; rfl
        rcases quoted n r hr r1 r2 rs (pt ++ [34]) with ⟨inner, left, pre, e1, e2, e3, e4⟩ | ⟨e1, e, e2⟩
        · refine .inl ⟨1 :: inner, left, 92 :: 34 :: pre, by rw [e1]; rfl, by simpa using e2, by rw [e3]; rfl, ?_⟩
          show run _ (92 :: 34 :: (pre ++ [34])) = _
          rw [hs, e4, dec_cons (by decide)]; simp [d12]
        · refine .inr ⟨by simpa using e1, e, ?_⟩
          rw [hs, e2, dec_cons (by decide)]; simp [d12]
      · rw [if_neg c2]
        by_cases e34 : x = 34
        · subst e34
          refine .inl ⟨[], mkm (y :: r), [], rfl, by simp, ?_, by simp [run, pstep, dec]⟩
          rw [um_mk n (y :: r) hyr yr1 yr2]; rfl
        · by_cases e92 : x = 92
          · subst e92
            have y92 : y ≠ 92 := fun e => c1 ⟨rfl, e⟩
            have y34 : y ≠ 34 := fun e => c2 ⟨rfl, e⟩
            have hs : ∀ t, run ⟨rs, pt, false, true⟩ (92 :: y :: t) = run ⟨rs, pt, false, true⟩ (y :: t) := fun t => by
              rw [run_cons, run_cons, run_cons]
              simp [pstep, y92, y34]
            rcases quoted n (y :: r) hyr yr1 yr2 rs pt with ⟨inner, left, pre, e1, e2, e3, e4⟩ | ⟨e1, e, e2⟩
            · cases pre with
              | nil => simp at e3; exact absurd e3.1 y34
              | cons p pre =>
                have hp : y = p := by simp at e3; exact e3.1
                subst hp
                refine .inl ⟨92 :: inner, left, 92 :: y :: pre, by rw [e1]; rfl, by simpa using e2, by rw [e3]; rfl, ?_⟩
                show run _ (92 :: y :: (pre ++ [34])) = _
                rw [hs, dec_92]; exact e4
            · refine .inr ⟨by simpa using e1, e, ?_⟩
              rw [hs, dec_92]; exact e2
          · have hs : ∀ t, run ⟨rs, pt, false, true⟩ (x :: t) = run ⟨rs, pt ++ [x], false, true⟩ t := fun t => by
              rw [run_cons]; simp [pstep, e92, e34]
            rcases quoted n (y :: r) hyr yr1 yr2 rs (pt ++ [x]) with ⟨inner, left, pre, e1, e2, e3, e4⟩ | ⟨e1, e, e2⟩
            · refine .inl ⟨x :: inner, left, x :: pre, by rw [e1]; rfl, by simp [e2]; omega, by rw [e3]; rfl, ?_⟩
              show run _ (x :: (pre ++ [34])) = _
              rw [hs, e4, dec_cons e92, d12_of x1 x2]; simp
            · refine .inr ⟨by simp [e1]; omega, e, ?_⟩
              rw [hs, e2, dec_cons e92, d12_of x1 x2]; simp

noncomputable def e3 (c : Nat) : Nat := if c = 44 then 3 else c
/-- the pieces so far as one text; a comma within a piece as a mark -/
noncomputable def enc (st : PSt) : List Nat := joinL [44] ((st.res ++ [st.part]).map (·.map e3))
theorem joinL_cons (s x : List Nat) {r : List (List Nat)} (h : r ≠ []) : joinL s (x :: r) = x ++ s ++ joinL s r := by
  cases r with
  | nil => exact absurd rfl h
  | cons y r => rfl
theorem joinL_last (s p q : List Nat) : ∀ xs : List (List Nat), joinL s (xs ++ [p ++ q]) = joinL s (xs ++ [p]) ++ q
  | [] => rfl
  | x :: r => by
    show joinL s (x :: (r ++ [p ++ q])) = joinL s (x :: (r ++ [p])) ++ q
    rw [joinL_cons s x (by simp), joinL_cons s x (by simp), joinL_last s p q r]
    simp
theorem joinL_snoc (s p : List Nat) : ∀ xs : List (List Nat), xs ≠ [] → joinL s (xs ++ [p]) = joinL s xs ++ s ++ p
  | [], h => absurd rfl h
  | [x], _ => rfl
  | x :: y :: r, _ => by
    show joinL s (x :: (y :: r ++ [p])) = _
    rw [joinL_cons s x (by simp), joinL_snoc s p (y :: r) (by simp), joinL_cons s x (by simp)]
    simp
theorem enc_part (rs : List (List Nat)) (pt q : List Nat) (e k e' k' : Bool) : enc ⟨rs, pt ++ q, e, k⟩ = enc ⟨rs, pt, e', k'⟩ ++ q.map e3 := by
  unfold enc
  dsimp only
  rw [List.map_append, List.map_append, List.map_cons, List.map_nil, List.map_append, List.map_cons, List.map_nil, joinL_last]
theorem enc_comma (rs : List (List Nat)) (pt : List Nat) (e k e' k' : Bool) : enc ⟨rs ++ [pt], [], e, k⟩ = enc ⟨rs, pt, e', k'⟩ ++ [44] := by
  unfold enc
  dsimp only
  have e0 : ([[]] : List (List Nat)).map (fun p => p.map e3) = [[]] := rfl
  rw [List.map_append, e0, joinL_snoc _ _ _ (by simp)]
  simp
theorem enc_flags (rs : List (List Nat)) (pt : List Nat) (e k e' k' : Bool) : enc ⟨rs, pt, e, k⟩ = enc ⟨rs, pt, e', k'⟩ := rfl
theorem plain_run : ∀ (t : List Nat), 34 ∉ t → ∀ rs pt, ∃ rs' pt', run ⟨rs, pt, false, false⟩ t = ⟨rs', pt', false, false⟩ ∧ enc ⟨rs', pt', false, false⟩ = enc ⟨rs, pt, false, false⟩ ++ t
  | [], _, rs, pt => ⟨rs, pt, rfl, by simp⟩
  | c :: r, h, rs, pt => by
    have hc : c ≠ 34 := fun e => h (by simp [e])
    have hr : 34 ∉ r := fun e => h (by simp [e])
    by_cases h44 : c = 44
    · subst h44
      obtain ⟨rs', pt', e1, e2⟩ := plain_run r hr (rs ++ [pt]) []
      refine ⟨rs', pt', ?_, ?_⟩
      · rw [run_cons]; simpa [pstep] using e1
      · rw [e2, enc_comma rs pt false false false false]; simp
    · obtain ⟨rs', pt', e1, e2⟩ := plain_run r hr rs (pt ++ [c])
      refine ⟨rs', pt', ?_, ?_⟩
      · rw [run_cons]; simpa [pstep, h44, hc] using e1
      · rw [e2, enc_part rs pt [c] false false false false]; simp [e3, h44]
noncomputable def init : PSt := ⟨[], [], false, false⟩
structure AInv (l dn rest : List Nat) : Prop where
  inv : ∃ pre, l = pre ++ rest ∧ dn.map d12 = enc (run init pre) ∧ (rest = [] ∨ ((run init pre).esc = false ∧ (run init pre).quo = false))
theorem AInv.start (l : List Nat) : AInv l [] l := ⟨[], rfl, rfl, .inr ⟨rfl, rfl⟩⟩
noncomputable def inn (l : List Nat) : List Nat := (l.flatMap fun d => if d = 92 then [] else [d]).flatMap fun d => if d = 44 then [3] else [d]
theorem inn_eq (l : List Nat) : inn l = (l.filter (· != 92)).map e3 := by
  unfold inn
  induction l with
  | nil => rfl
  | cons c r ih =>
    rw [List.flatMap_cons, List.flatMap_append, ih]
    by_cases h : c = 92
    · subst h; simp
    · by_cases h4 : c = 44
      · subst h4; simp [e3]
      · simp [h, h4, e3]
theorem inn_d12 (l : List Nat) : (inn l).map d12 = (dec l).map e3 := by
  rw [inn_eq]
  unfold dec
  rw [List.map_map, List.map_map]
  refine List.map_congr_left fun c _ => ?_
  simp only [Function.comp, d12, e3]
  by_cases h1 : c = 1
  · subst h1; rfl
  · by_cases h2 : c = 2
    · subst h2; rfl
    · by_cases h4 : c = 44
      · subst h4; rfl
      · simp [h1, h2, h4]
theorem map_d12_id {l : List Nat} (h1 : 1 ∉ l) (h2 : 2 ∉ l) : l.map d12 = l := by
  conv => rhs; rw [← List.map_id l]
  refine List.map_congr_left fun c hc => d12_of (fun e => h1 (e ▸ hc)) (fun e => h2 (e ▸ hc))
theorem st_eta (st : PSt) (h1 : st.esc = false) (h2 : st.quo = false) : st = ⟨st.res, st.part, false, false⟩ := by cases st; simp_all
/-- one turn of the loop -/
theorem AInv.step {l dn ah bh : List Nat} (I : AInv l dn (ah ++ 34 :: bh)) (ha : 34 ∉ ah) (l1 : 1 ∉ l) (l2 : 2 ∉ l) :
    (∃ inner left, mkm bh = inner ++ 34 :: left ∧ 34 ∉ inner ∧ AInv l (dn ++ (ah ++ [34] ++ inn inner ++ [34])) (um left) ∧ (um left).length < bh.length + 1) ∨
    (34 ∉ mkm bh ∧ AInv l (dn ++ (ah ++ [34] ++ inn (mkm bh) ++ [])) []) := by
  obtain ⟨pre, e1, e2, e3'⟩ := I.inv
  have hq : (run init pre).esc = false ∧ (run init pre).quo = false := by
    rcases e3' with h | h
    · simp at h
    · exact h
  have hst := st_eta _ hq.1 hq.2
  obtain ⟨rs', pt', p1, p2⟩ := plain_run ah ha (run init pre).res (run init pre).part
  have mem : ∀ c, c ∈ ah ++ 34 :: bh → c ∈ l := fun c hc => by rw [e1]; exact List.mem_append_right _ hc
  have ah1 : 1 ∉ ah := fun q => l1 (mem 1 (by simp [q]))
  have ah2 : 2 ∉ ah := fun q => l2 (mem 2 (by simp [q]))
  have bh1 : 1 ∉ bh := fun q => l1 (mem 1 (by simp [q]))
  have bh2 : 2 ∉ bh := fun q => l2 (mem 2 (by simp [q]))
  have r1 : run init (pre ++ ah ++ [34]) = ⟨rs', pt' ++ [34], false, true⟩ := by
    rw [run_app, run_app, hst, p1]; rfl
  have en1 : (dn ++ (ah ++ [34])).map d12 = enc ⟨rs', pt' ++ [34], false, true⟩ := by
    rw [enc_part rs' pt' [34] false true false false, p2, List.map_append, e2, hst, List.map_append, map_d12_id ah1 ah2]
    simp [d12, e3]
  rcases quoted bh.length bh (Nat.le_refl _) bh1 bh2 rs' (pt' ++ [34]) with ⟨inner, left, pr, q1, q2, q3, q4⟩ | ⟨q1, e, q2⟩
  · refine .inl ⟨inner, left, q1, q2, ⟨pre ++ ah ++ [34] ++ (pr ++ [34]), ?_, ?_, ?_⟩, ?_⟩
    · rw [e1, q3]; simp
    · rw [run_app, r1, q4, show pt' ++ [34] ++ dec inner ++ [34] = (pt' ++ [34]) ++ (dec inner ++ [34]) from by simp, enc_part rs' (pt' ++ [34]) (dec inner ++ [34]) false false false true, ← en1]
      simp only [List.map_append, inn_d12, List.append_assoc]
      simp [d12, e3]
    · rw [run_app, r1, q4]; exact .inr ⟨rfl, rfl⟩
    · have := congrArg List.length q3
      simp at this; omega
  · refine .inr ⟨q1, ⟨pre ++ ah ++ [34] ++ bh, ?_, ?_, .inl rfl⟩⟩
    · rw [e1]; simp
    · rw [run_app, r1, q2, enc_part rs' (pt' ++ [34]) (dec (mkm bh)) e true false true, ← en1]
      simp only [List.map_append, inn_d12, List.append_assoc]
      simp
noncomputable def d3 (c : Nat) : Nat := if c = 3 then 44 else c
theorem splitL_map {f : Nat → Nat} {c : Nat} (h : ∀ d, f d = c ↔ d = c) : ∀ l : List Nat, splitL c (l.map f) = (splitL c l).map (·.map f)
  | [] => rfl
  | d :: r => by
    have ih := splitL_map h r
    have e : splitL c (f d :: r.map f) = if f d = c then [] :: splitL c (r.map f) else match splitL c (r.map f) with
      | [] => [[f d]]
      | p :: q => (f d :: p) :: q := rfl
    have e' : splitL c (d :: r) = if d = c then [] :: splitL c r else match splitL c r with
      | [] => [[d]]
      | p :: q => (d :: p) :: q := rfl
    rw [List.map_cons, e, e', ih]
    by_cases hd : d = c
    · rw [if_pos ((h d).mpr hd), if_pos hd]; rfl
    · rw [if_neg (fun q => hd ((h d).mp q)), if_neg hd]
      cases splitL c r <;> rfl
noncomputable def filledL (ps : List (List Nat)) : List (List Nat) := if ps.getLast? = some [] then ps.dropLast else ps
theorem filledL_map (f : List Nat → List Nat) (h : ∀ p, f p = [] ↔ p = []) (ps : List (List Nat)) : (filledL ps).map f = filledL (ps.map f) := by
  unfold filledL
  rw [List.getLast?_map]
  cases hl : ps.getLast? with
  | none => simp
  | some p =>
    by_cases hp : p = []
    · subst hp; simp [(h []).mpr rfl, List.map_dropLast]
    · have : f p ≠ [] := fun q => hp ((h p).mp q)
      simp [hp, this]
theorem e3_d3 {p : List Nat} (h : 3 ∉ p) : (p.map e3).map d3 = p := by
  rw [List.map_map]
  conv => rhs; rw [← List.map_id p]
  refine List.map_congr_left fun c hc => ?_
  have hc3 : c ≠ 3 := fun e => h (e ▸ hc)
  simp only [Function.comp, e3, d3, id]
  by_cases h4 : c = 44
  · subst h4; rfl
  · simp [h4, hc3]
theorem pstep_sub (st : PSt) (c d : Nat) (hd : ∀ p ∈ (pstep st c).res ++ [(pstep st c).part], d ∈ p → (∃ q ∈ st.res ++ [st.part], d ∈ q) ∨ d = c) : True := trivial
theorem run_free {d : Nat} : ∀ (t : List Nat), d ∉ t → ∀ st : PSt, (∀ p ∈ st.res ++ [st.part], d ∉ p) → ∀ p ∈ (run st t).res ++ [(run st t).part], d ∉ p
  | [], _, st, h => h
  | c :: r, hd, st, h => by
    have hc : d ≠ c := fun e => hd (by simp [e])
    have hr : d ∉ r := fun e => hd (by simp [e])
    rw [run_cons]
    refine run_free r hr _ ?_
    have hp := h st.part (by simp)
    have hrs : ∀ p ∈ st.res, d ∉ p := fun p hq => h p (by simp [hq])
    intro p hm
    unfold pstep at hm
    split at hm
    · rcases List.mem_append.mp hm with hm | hm
      · exact hrs p hm
      · rw [List.mem_singleton.mp hm]; simp [hp, hc]
    · split at hm
      · split at hm
        · rcases List.mem_append.mp hm with hm | hm
          · exact hrs p hm
          · rw [List.mem_singleton.mp hm]; exact hp
        · rcases List.mem_append.mp hm with hm | hm
          · exact hrs p hm
          · rw [List.mem_singleton.mp hm]; simp [hp, hc]
      · split at hm
        · rcases List.mem_append.mp hm with hm | hm
          · rcases List.mem_append.mp hm with hm | hm
            · exact hrs p hm
            · rw [List.mem_singleton.mp hm]; exact hp
          · rw [List.mem_singleton.mp hm]; simp
        · rcases List.mem_append.mp hm with hm | hm
          · exact hrs p hm
          · rw [List.mem_singleton.mp hm]; simp [hp, hc]
/-- the loop's end -/
theorem AInv.fin {l dn rest : List Nat} (I : AInv l dn rest) (hr : 34 ∉ rest) (l1 : 1 ∉ l) (l2 : 2 ∉ l) (l3 : 3 ∉ l) :
    (filledL (splitL 44 (dn ++ rest))).map (fun p => (p.map d12).map d3) = parseR l := by
  obtain ⟨pre, e1, e2, e3'⟩ := I.inv
  have hall : (dn ++ rest).map d12 = enc (run init l) := by
    rcases e3' with h | h
    · subst h; rw [List.append_nil] at e1 ⊢; rw [e1, e2]
    · have hst := st_eta _ h.1 h.2
      obtain ⟨rs', pt', p1, p2⟩ := plain_run rest hr (run init pre).res (run init pre).part
      have rest1 : 1 ∉ rest := fun q => l1 (by rw [e1]; simp [q])
      have rest2 : 2 ∉ rest := fun q => l2 (by rw [e1]; simp [q])
      rw [e1, run_app, hst, p1, p2, List.map_append, e2, hst, map_d12_id rest1 rest2]
  have hd12 : ∀ d, d12 d = 44 ↔ d = 44 := by
    intro d
    unfold d12
    by_cases h1 : d = 1
    · subst h1; simp
    · by_cases h2 : d = 2
      · subst h2; simp
      · simp [h1, h2]
  have hsp := splitL_map hd12 (dn ++ rest)
  rw [hall] at hsp
  have hfree := run_free l l3 init (by simp [init])
  unfold enc at hsp
  rw [splitL_join 44 _ (by simp) (by
    intro p hp
    obtain ⟨q, _, rfl⟩ := List.mem_map.mp hp
    intro hm
    obtain ⟨c, _, hc⟩ := List.mem_map.mp hm
    unfold e3 at hc
    split at hc
    · cases hc
    · rename_i hne; exact hne hc)] at hsp
  rw [show (fun p : List Nat => (p.map d12).map d3) = (fun p => p.map d3) ∘ (fun p => p.map d12) from rfl, ← List.map_map, filledL_map (·.map d12) (by simp), ← hsp, filledL_map (·.map d3) (by simp), List.map_map]
  have e4 : ((run init l).res ++ [(run init l).part]).map ((fun p => p.map d3) ∘ fun p => p.map e3) = (run init l).res ++ [(run init l).part] := by
    conv => rhs; rw [← List.map_id ((run init l).res ++ [(run init l).part])]
    exact List.map_congr_left fun p hp => e3_d3 (hfree p hp)
  rw [e4]
  show filledL ((pfold l).res ++ [(pfold l).part]) = parseR l
  unfold filledL parseR
  by_cases hp : (pfold l).part = []
  · simp [hp]
  · simp [hp]
theorem enc_len (st : PSt) (c : Nat) : (enc (pstep st c)).length ≤ (enc st).length + 1 := by
  obtain ⟨rs, pt, e, k⟩ := st
  unfold pstep
  dsimp only
  split
  · rw [enc_part rs pt [c] _ _ e k]; simp
  · split
    · split
      · rw [enc_flags rs pt _ _ e k]; omega
      · rw [enc_part rs pt [c] _ _ e k]; simp
    · split
      · rw [enc_comma rs pt _ _ e k]; simp
      · rw [enc_part rs pt [c] _ _ e k]; simp
theorem enc_run_len : ∀ (t : List Nat) (st : PSt), (enc (run st t)).length ≤ (enc st).length + t.length
  | [], st => by simp [run]
  | c :: r, st => by
    have h1 := enc_run_len r (pstep st c)
    have h2 := enc_len st c
    rw [run_cons, List.length_cons]; omega
theorem AInv.len {l dn rest : List Nat} (I : AInv l dn rest) : dn.length + rest.length ≤ l.length ∧ ∀ c ∈ rest, c ∈ l := by
  obtain ⟨pre, e1, e2, _⟩ := I.inv
  have h1 := congrArg List.length e2
  have h2 := enc_run_len pre init
  have h3 : (enc init).length = 0 := rfl
  rw [List.length_map] at h1
  refine ⟨?_, fun c hc => by rw [e1]; simp [hc]⟩
  have := congrArg List.length e1
  rw [List.length_append] at this
  omega
theorem mkm_len : ∀ (n : Nat) (l : List Nat), l.length ≤ n → (mkm l).length ≤ l.length
  | _, [], _ => by simp [mkm]
  | _, [x], _ => by simp [mkm]
  | 0, _ :: _ :: _, h => by simp at h
  | n + 1, x :: y :: r, h => by
    have hr : r.length ≤ n := by simp at h; omega
    have hyr : (y :: r).length ≤ n := by simp at h ⊢; omega
    have a := mkm_len n r hr
    have b := mkm_len n (y :: r) hyr
    rw [mkm_eq]
    split
    · simp; omega
    · split
      · simp; omega
      · simp at b ⊢; omega
end Mine
end
section
open PySem PySem.W PyProof.Rows PySem.Calls
namespace Mine
section
variable {prog : Program} {w : World} {A : Around} {E : Value → Shared → Prop} {s : Shared}
theorem draw_walk {I : Addr} {fp : List Addr} {n : Nat} {P : Nat → Value → Prop} {St : Nat → Heap → Prop} (W : Walks prog w A I fp [I] n P St) : ∀ (k i : Nat) (s : Shared), i + k ≤ n → St i s.heap →
    wpAny (model prog w) A (draw (.ref I) k) (fun vs s' => vs.length = k ∧ (∀ (j : Nat) v, vs[j]? = some v → P (i + j) v) ∧ St (i + k) s'.heap ∧ Up (· = I) s s') (fun _ _ => False) s
  | 0, i, s, _, hst => wpAny_pure ⟨rfl, by simp, hst, Up.refl _ _⟩
  | k + 1, i, s, hk, hst => by
    show wpAny _ _ (pyNext (.ref I) >>= _) _ _ s
    refine wpAny_bind (wpAny_with_toks (n := s.toks) (Nat.le_refl _) (W.item i s _ _ (by omega) hst fun v h' tk hP hst' hk' htk => ?_))
    have u : Up (· = I) s { s with heap := h', toks := tk } := ⟨⟨h', tk, rfl⟩, fun b o hb e => hk' b o (fun hm => hb (List.mem_singleton.mp hm)) e, htk⟩
    refine wpAny_bind (wpAny_holding (wpAny_mono (draw_walk W k (i + 1) _ (by omega) hst') (fun vs s₂ h₂ => wpAny_pure ?_) fun _ _ f => f))
    obtain ⟨h1, h2, h3, h4⟩ := h₂
    refine ⟨by simp [h1], fun j v hj => ?_, by rw [show i + (k + 1) = i + 1 + k from by omega]; exact h3, u.trans h4⟩
    cases j with
    | zero => simp at hj; subst hj; exact hP
    | succ j => have := h2 j v (by simpa using hj); rw [show i + (j + 1) = i + 1 + j from by omega]; exact this
theorem q_unpack {v : Value} {n : Nat} {P : Nat → Value → Prop} {Y : List Addr} (hA : A.handled = none) (hs : Src prog w v s n P Y) (hi : ∀ (Q : Bool → Shared → Prop) (E : Value → Shared → Prop), Q false s → wpAny (model prog w) A (notIterableAtAll v) Q E s) :
    Qt prog w A (unpackItems v n none) (fun vs _ => vs.length = n ∧ ∀ (j : Nat) x, vs[j]? = some x → P j x) s := by
  unfold unpackItems
  refine wpAny_bind (hi _ _ ?_)
  simp only [Bool.false_eq_true, if_false]
  refine wpAny_bind (wpAny_holding (hs _ _ _ fun I St s₂ hW hst hIt hsz k₂ hI => ?_))
  have W := hW A hA
  refine wpAny_bind (wpAny_holding (wpAny_mono (draw_walk W n 0 s₂ (by omega) hst) (fun vs s₃ h₃ => ?_) fun _ _ f => f))
  obtain ⟨h1, h2, h3, u⟩ := h₃
  rw [if_neg (by omega)]
  rw [Nat.zero_add] at h3
  refine wpAny_bind (wpAny_holding (wpAny_with_toks (n := s₃.toks) (Nat.le_refl _) (W.done s₃ _ _ h3 fun h' tk hk htk => ?_)))
  simp only [Option.isSome_none, Bool.false_eq_true, if_false]
  refine wpAny_pure ⟨⟨h1, fun j x hj => by have := h2 j x hj; rwa [Nat.zero_add] at this⟩, ?_⟩
  have u2 : Up (· = I) s₃ { s₃ with heap := h', toks := tk } := ⟨⟨h', tk, rfl⟩, fun b o hb e => hk b o (fun hm => hb (List.mem_singleton.mp hm)) e, htk⟩
  have u3 := u.trans u2
  obtain ⟨e1, e2, e3⟩ := k₂
  obtain ⟨f1, f2, f3⟩ := u3
  obtain ⟨ha, ta, rfl⟩ := e1
  obtain ⟨hb, tb, eb⟩ := f1
  refine ⟨⟨hb, tb, by rw [eb]⟩, fun b o _ e => f2 b o (by rintro rfl; rw [hI] at e; cases e) (e2 b o id e), Nat.le_trans e3 f3⟩
theorem iterable_list {a : Addr} {its : Array Value} (hl : s.heap.IsList a its) (Q : Bool → Shared → Prop) (E : Value → Shared → Prop) (h : Q false s) : wpAny (model prog w) A (notIterableAtAll (.ref a)) Q E s := by
  unfold notIterableAtAll
  exact wpAny_bind (wpAny_specialOf hl.typeIs slot_list_iter.lookup (wpAny_pure h))
theorem iterable_tuple {a : Addr} {its : Array Value} (hl : s.heap.IsTuple a its) (Q : Bool → Shared → Prop) (E : Value → Shared → Prop) (h : Q false s) : wpAny (model prog w) A (notIterableAtAll (.ref a)) Q E s := by
  unfold notIterableAtAll
  exact wpAny_bind (wpAny_specialOf hl.typeIs PySem.F.slot_tuple_iter.lookup (wpAny_pure h))
theorem src_tuple {a : Addr} {vs : List Value} (h : s.heap.IsTuple a vs.toArray) : Src prog w (.ref a) s vs.length (fun i v => vs[i]? = some v) [a] := by
  intro A E Q hQ
  have hne : a ≠ s.heap.objs.size := by obtain ⟨o, ho, _⟩ := h; exact Nat.ne_of_lt (Heap.lt_size ho)
  refine wpAny_pyIter_tuple h (hQ _ (fun i h => h.IsTupleIter s.heap.objs.size a i ∧ h.IsTuple a vs.toArray) _ (fun A' hA => ?_) ⟨⟨_, Heap.get?_push_size _ rfl, rfl, rfl⟩, h.push _⟩ ?_ ?_ (Kp.push _) (none_size _))
  · have := Walks.tuple (prog := prog) (w := w) hA s.heap.objs.size a hne vs.toArray
    simpa using this
  · rintro i s' ⟨⟨o, ho, _, hd⟩, _⟩
    exact ⟨o, _, ho, hd⟩
  · intro b hb
    rw [show ({ s with heap := s.heap.push { cls := .type "tuple_iterator", data := .fields #[.ref a, .int 0 0] } } : Shared).heap.objs.size = s.heap.objs.size + 1 from Heap.size_push ..]
    rcases List.mem_cons.mp hb with rfl | hb
    · exact Nat.lt_succ_self _
    · rw [List.mem_singleton.mp hb]; obtain ⟨o, ho, _⟩ := h; exact Nat.lt_succ_of_lt (Heap.lt_size ho)
theorem two_items {vs : List Value} {x y : Value} (hl : vs.length = 2) (h : ∀ (j : Nat) v, vs[j]? = some v → [x, y][j]? = some v) : vs = [x, y] := same_items (by simpa using hl) h
/-- the two of a list of two -/
theorem q_unpack2L {a : Addr} {x y : Value} (hA : A.handled = none) (hl : s.heap.IsList a [x, y].toArray) : Qt prog w A (unpackItems (.ref a) 2 none) (fun vs _ => vs = [x, y]) s :=
  (q_unpack (n := 2) hA (src_list (vs := [x, y]) hl) (fun Q E h => iterable_list hl Q E h)).mono fun vs s' h _ => two_items h.1 h.2
theorem q_unpack2T {a : Addr} {x y : Value} (hA : A.handled = none) (hl : s.heap.IsTuple a [x, y].toArray) : Qt prog w A (unpackItems (.ref a) 2 none) (fun vs _ => vs = [x, y]) s :=
  (q_unpack (n := 2) hA (src_tuple (vs := [x, y]) hl) (fun Q E h => iterable_tuple hl Q E h)).mono fun vs s' h _ => two_items h.1 h.2
theorem q_newTuple {vs : List Value} (h : vs.length ≤ sizeLine) : Qt prog w A (newTuple vs) (fun v s' => ∃ a, v = .ref a ∧ s.heap.get? a = none ∧ s'.heap.IsTuple a vs.toArray) s :=
  wpAny_newObj_type ⟨⟨_, rfl, none_size _, _, Heap.get?_push_size _ rfl, rfl, 0, rfl⟩, Kp.push _⟩ (by show vs.toArray.size ≤ sizeLine; simpa using h)
end

section
variable {prog : Program} {w : World} {A : Around} {E : Value → Shared → Prop} {s₀ s : Shared} {m cm : Str → Option Value} {env : Env} {n k : Str}
/-- n, k = a pair -/
theorem asg2 {v x y : Value} {p1 p2 p3 : Pos} {q : Nat} {Q : Unit → Shared → Prop} (F : Fs s₀ env.locals m env.cells cm s) (hu : Qt prog w A (unpackItems v 2 none) (fun vs _ => vs = [x, y]) s)
    (h : ∀ s', Fs s₀ env.locals (Upd (Upd m n x) k y) env.cells cm s' → Up (Mx env.locals env.cells) s s' → Q () s')
    (hk : env.scope.kind = .function := by rfl) (hn : env.kindOf n = some .local := by rfl) (hn' : env.kindOf k = some .local := by rfl) :
    wpAny (model prog w) A (assign (.Tuple [.Name n p1, .Name k p2] q p3) env v) Q E s := by
  rw [arm_assign_Tuple]
  refine wpAny_bind (wpAny_standAt ?_)
  unfold unpack
  refine wpAny_bind (wpAny_holding ?_)
  show wpAny _ _ (unpackItems v 2 none) _ _ _
  refine hu.then fun vs s₁ e k₁ => ?_
  subst e
  show wpAny _ _ (do holding [y] (assign (.Name n p1) env x); assignInOrder [assign (.Name k p2) env] [y]) _ _ _
  refine wpAny_bind (wpAny_holding (wpAny_assign_Name (stL (F.k k₁) (fun s₂ F₂ u₂ => ?_) hk hn)))
  show wpAny _ _ (do holding [] (assign (.Name k p2) env y); assignInOrder [] []) _ _ _
  refine wpAny_bind (wpAny_holding (wpAny_assign_Name (stL F₂ (fun s₃ F₃ u₃ => ?_) hk hn')))
  exact wpAny_pure (h s₃ F₃ (((Up.of k₁).trans u₂).trans u₃))
/-- n, k = x, y : the stores swapped -/
theorem asg2s {value : Expr} {p1 p2 p3 pos : Pos} {q : Nat} {Q : Flow → Shared → Prop} (F : Fs s₀ env.locals m env.cells cm s)
    (he : wpAny (model prog w) A (eval value env) (fun v s₁ => ∃ x y, Kp s s₁ ∧ Qt prog w A (unpackItems v 2 none) (fun vs _ => vs = [x, y]) s₁ ∧
      ∀ s', Fs s₀ env.locals (Upd (Upd m k y) n x) env.cells cm s' → Up (Mx env.locals env.cells) s s' → Q .next s') E s)
    (hs : swapsWithSole [.Tuple [.Name n p1, .Name k p2] q p3] value pos.line env = pure false := by rfl)
    (hw : swappedStores [.Tuple [.Name n p1, .Name k p2] q p3] value env = pure (some [n, k]) := by rfl)
    (hk : env.scope.kind = .function := by rfl) (hn : env.kindOf n = some .local := by rfl) (hn' : env.kindOf k = some .local := by rfl) :
    wpAny (model prog w) A (exec (.Assign [.Tuple [.Name n p1, .Name k p2] q p3] value pos) env) Q E s := by
  refine Assign_Tuple_swapped (names := [n, k]) (wpAny_mono he (fun v s₁ h₁ => ?_) fun _ _ e => e) hs hw
  obtain ⟨x, y, k₁, hu, h⟩ := h₁
  refine hu.then fun vs s₂ e k₂ => ?_
  subst e
  show wpAny _ _ (do holding [x] (bindName env k y); assignInOrder [bindName env n] [x]) _ _ _
  refine wpAny_bind (wpAny_holding (bindName_ (stL (F.k (k₁.trans k₂)) (fun s₃ F₃ u₃ => ?_) hk hn')))
  show wpAny _ _ (do holding [] (bindName env n x); assignInOrder [] []) _ _ _
  refine wpAny_bind (wpAny_holding (bindName_ (stL F₃ (fun s₄ F₄ u₄ => ?_) hk hn)))
  exact wpAny_pure (h s₄ F₄ (((Up.of (k₁.trans k₂)).trans u₃).trans u₄))
/-- a while by a measure -/
theorem st_while {test : Expr} {body : List Stmt} {pos : Pos} {Q : Flow → Shared → Prop} (J : Nat → Shared → Prop) (N : Nat) (h0 : J N s)
    (turn : ∀ n s₁, J n s₁ → wpAny (model prog w) A (isTrue test env (eval test env)) (fun b s₂ => if b then wpAny (model prog w) A (execs body env) (fun f s₃ => match f with
      | .next | .cont => ∃ m, m < n ∧ J m s₃ | .brk => False | .ret v => Q (.ret v) s₃) (fun _ _ => False) s₂ else Q .next s₂) (fun _ _ => False) s₁) :
    wpAny (model prog w) A (exec (.While test body [] pos) env) Q E s := by
  refine wpAny_While (codeAny_whileLoop J (fun n s₁ hj => ?_) N h0)
  refine wpAny_mono (turn n s₁ hj) (fun b s₂ h₂ => ?_) fun _ _ f => f.elim
  cases b with
  | true =>
    simp only [if_true] at h₂ ⊢
    refine wpAny_mono h₂ (fun f s₃ h₃ => ?_) fun _ _ f => f.elim
    cases f with
    | next => exact h₃
    | cont => exact h₃
    | brk => exact h₃.elim
    | ret v => exact h₃
  | false =>
    simp only [Bool.false_eq_true, if_false] at h₂ ⊢
    exact wpAny_execs_nil h₂
end
end Mine
end
section
open PySem PySem.W PyProof.Rows PySem.Calls
namespace Mine
structure Gd (K : Frag) (h : Heap) : Prop where
  K : K.In h
  g : ∃ mg, h.Ns mainGlobals mg
  b : ∃ mb, h.Ns builtinsNs mb ∧ ∀ x : Str, x ≠ "__name__" → mb x = bootBuiltins x
  lim : h.NoLimit
theorem Gd.h {K : Frag} {h h' : Heap} (G : Gd K h) (k : ∀ b o, h.get? b = some o → h'.get? b = some o) : Gd K h' :=
  ⟨G.K.keeps k, let ⟨mg, e⟩ := G.g; ⟨mg, e.keeps k⟩, let ⟨mb, e, f⟩ := G.b; ⟨mb, e.keeps k, f⟩, G.lim.keeps k⟩
theorem Gd.k {K : Frag} {s s' : Shared} (G : Gd K s.heap) (k : Kp s s') : Gd K s'.heap := G.h k.keep
section
variable {prog : Program} {w : World} {A : Around} {E : Value → Shared → Prop} {s : Shared} {env : Env} {n : Str} {v : Value} {K : Frag}
theorem nmK {pos : Pos} {Q : Value → Shared → Prop} (G : Gd K s.heap) (e : nsIn K mainGlobals n = some (some v)) (h : Q v s)
    (hg : env.globals = mainGlobals := by rfl) (hk : env.scope.kind = .function := by rfl) (hl : env.kindOf n = some .globalImplicit := by rfl) (hd : (n == ("__debug__" : Str)) = false := by decide) :
    wpAny (model prog w) A (eval (.Name n pos) env) Q E s := by
  obtain ⟨mg, e1⟩ := G.g
  exact nmG (by rw [hg]; exact e1) (mg_of G.K e1 e) h hk hl hd
end
section
variable {prog : Program} {w : World} {A : Around} {E : Value → Shared → Prop} {s : Shared} {env : Env} {n : Str} {v : Value} {K : Frag}
theorem gcall {pos : Pos} {f : Addr} {o : Obj} {fd : FuncData} {e : Expr} {rest : List Expr} {Q : Value → Shared → Prop} (ho : s.heap.get? f = some o) (hd : o.data = .func fd)
    (h : wpAny (model prog w) A (spliced (backTo pos (starEach (e :: rest) env))) (fun vs s₁ => Kp s s₁ ∧ wpAny (model prog w) A (call (.ref f) vs) Q E s₁) E s)
    (he : starEach (e :: rest) env = (false, eval e env) :: starEach rest env := by rfl) :
    wpAny (model prog w) A (callWith pos (.ref f) [] (backTo pos (starEach (e :: rest) env)) []) Q E s :=
  callWith_def hd (wpAny_mono h (fun vs s₁ h₁ => ⟨h₁.1.keep _ _ ho, h₁.2⟩) fun _ _ x => x) he
end
section
variable {prog : Program} {w : World} {A : Around} {E : Value → Shared → Prop} {s : Shared} {env : Env} {n : Str} {v : Value} {K : Frag}
theorem nmKB {pos : Pos} {Q : Value → Shared → Prop} (G : Gd K s.heap) (e : nsIn K mainGlobals n = some none) (hv : bootBuiltins n = some v) (h : Q v s) (hn : n ≠ "__name__" := by decide)
    (hg : env.globals = mainGlobals := by rfl) (hb : env.builtins = builtinsNs := by rfl) (hk : env.scope.kind = .function := by rfl) (hl : env.kindOf n = some .globalImplicit := by rfl) (hd : (n == ("__debug__" : Str)) = false := by decide) :
    wpAny (model prog w) A (eval (.Name n pos) env) Q E s := by
  obtain ⟨mg, e1⟩ := G.g
  obtain ⟨mb, e2, e3⟩ := G.b
  exact nmB (by rw [hg]; exact e1) (mg_none_of G.K e1 e) (by rw [hb]; exact e2) ((e3 n hn).trans hv) h hk hl hd
end
theorem flat_spell_nil (l : List Nat) : l.flatMap (spell []) = l := by
  induction l with
  | nil => rfl
  | cons a r ih => rw [List.flatMap_cons, ih]; rfl
noncomputable def T0 : List (Nat × List Nat) := [(38, [38, 97, 109, 112, 59]), (60, [38, 108, 116, 59]), (62, [38, 103, 116, 59])]
noncomputable def T1 : List (Nat × List Nat) := [(38, [38, 97, 109, 112, 59]), (60, [38, 108, 116, 59]), (62, [38, 103, 116, 59]), (34, [38, 113, 117, 111, 116, 59]), (13, [38, 35, 49, 51, 59]), (10, [38, 35, 49, 48, 59]), (9, [38, 35, 48, 57, 59])]
noncomputable def T2 : List (Nat × List Nat) := [(38, [38, 97, 109, 112, 59]), (62, [38, 103, 116, 59]), (34, [38, 113, 117, 111, 116, 59])]
noncomputable def T3 : List (Nat × List Nat) := [(38, [38, 97, 109, 112, 59]), (60, [38, 108, 116, 59]), (62, [38, 103, 116, 59]), (13, [38, 35, 120, 68, 59])]
noncomputable def T4 : List (Nat × List Nat) := [(38, [38, 97, 109, 112, 59]), (60, [38, 108, 116, 59]), (34, [38, 113, 117, 111, 116, 59]), (9, [38, 35, 120, 57, 59]), (10, [38, 35, 120, 65, 59]), (13, [38, 35, 120, 68, 59])]
noncomputable def tabs : List (List (Nat × List Nat)) := [T0, T1, T2, T3, T4]
theorem strs_cons {x y : Str} {t : Tok} {vs : List Value} {ys : List Str} (h : x = y) (r : StrsAre vs ys) : StrsAre (.str x t :: vs) (y :: ys) := by subst h; exact .cons _ _ r
theorem strs_get {vs : List Value} {ps : List (List Nat)} (h : StrsAre vs (ps.map S)) {i : Nat} (hi : i < ps.length) : ∃ t, vs[i]? = some (.str (S (ps.getD i [])) t) := by
  have hl : vs.length = ps.length := by rw [h.length, List.length_map]
  have e : vs[i]? = some vs[i] := List.getElem?_eq_getElem (by omega)
  obtain ⟨x, t, hx, _, hp⟩ := strs_at h e
  exact ⟨t, by rw [e, hx, List.getD_eq_getElem?_getD, hp]; rfl⟩
section
variable {prog : Program} {w : World} {A : Around} {E : Value → Shared → Prop} {s : Shared}
/-- xs[k] -/
theorem at_idx {value slice : Expr} {a : Addr} {vs : List Value} {v : Value} {k : Nat} {u : Tok} {Q : Value → Shared → Prop} (hl : s.heap.IsList a vs.toArray) (hv : vs[k]? = some v) (hk : k < 1000000) (h : Q v s)
    (hs : subscripted slice false (.ref a) (.int (k : Int) u) = operate [.ref a, .int (k : Int) u] (getItem (.ref a) (.int (k : Int) u)) := by with_unfolding_all rfl) :
    wpAny (model prog w) A (subscriptTail value slice (.ref a) (.int (k : Int) u)) Q E s :=
  tail_any hl.typeIs list_getitem_lookup (wpAny_getItem_list hl (by omega) (by omega) (by simpa using hv) h) hs
end
theorem spell_len6 (h d : Nat) : (spell (tabs.getD h []) d).length ≤ 6 := by
  refine spell_len ?_ d
  match h with
  | 0 => decide +kernel
  | 1 => decide +kernel
  | 2 => decide +kernel
  | 3 => decide +kernel
  | 4 => decide +kernel
  | n + 5 => rfl
theorem strs_values : ∀ {vs : List Value} {ys : List Str}, StrsAre vs ys → ∃ l : List (Str × Tok), vs = strValues l ∧ l.map (·.1) = ys
  | _, _, .nil => ⟨[], rfl, rfl⟩
  | _, _, .cons y t h => by
    obtain ⟨l, rfl, rfl⟩ := strs_values h
    exact ⟨(y, t) :: l, rfl, rfl⟩
theorem flatten_len_sum : ∀ ps : List (List Nat), ((ps.map S).map (·.length)).sum = ps.flatten.length
  | [] => rfl
  | p :: r => by simp only [List.map_cons, List.sum_cons, List.flatten_cons, List.length_append, S_len, flatten_len_sum r]
section
variable {prog : Program} {w : World} {A : Around} {E : Value → Shared → Prop} {s : Shared}
theorem q_join {a : Addr} {vs : List Value} {ps : List (List Nat)} {t : Tok} (hl : s.heap.IsList a vs.toArray) (hs : StrsAre vs (ps.map S)) (hsz : ps.flatten.length ≤ 16777216) :
    Qt prog w A (call (.builtin "str.join") [.str (S []) t, .ref a]) (fun v _ => ∃ t', v = .str (S ps.flatten) t') s := by
  obtain ⟨l, rfl, hl2⟩ := strs_values hs
  refine Qt.mk (SC.join hl hl2 ?_ fun t' _ => ⟨⟨t', ?_⟩, keeps_tok⟩)
  · unfold JoinOk
    rw [StrLaws.joinTotal, flatten_len_sum]
    simp only [S_len, List.length_nil, Nat.mul_zero, Nat.add_zero]
    unfold Builtin.Str.tooLong
    rw [sizeLine_eq]
    simp only [Bool.not_eq_true', decide_eq_false_iff_not]; omega
  · show Value.str (Builtin.Str.glued (S []) (ps.map S)) t' = _
    rw [StrLaws.glued_eq_join, join_S, joinL_nil_sep]
end
theorem ints_at {vs : List Value} {ns : List Int} (h : IntsAre vs ns) {i : Nat} {v : Value} (hv : vs[i]? = some v) : ∃ n t, v = .int n t ∧ ns[i]? = some n := by
  induction h generalizing i with
  | nil => simp at hv
  | cons n t h ih =>
    cases i with
    | zero => simp at hv; exact ⟨n, t, hv.symm, by simp⟩
    | succ i => exact ih (i := i) (by simpa using hv)
section
variable {prog : Program} {w : World} {A : Around} {E : Value → Shared → Prop} {s : Shared} {env : Env} {n : Str} {v : Value}
theorem nmX {pos : Pos} {c : Addr} {Q : Value → Shared → Prop} (hv : s.heap.IsCell c (some v)) (h : Q v s) (hc : env.cells.lookup n = some c := by rfl)
    (hk : env.scope.kind = .function := by rfl) (hl : env.kindOf n = some .cell := by rfl) (hd : (n == ("__debug__" : Str)) = false := by decide) :
    wpAny (model prog w) A (eval (.Name n pos) env) Q E s := wpAny_Name (wpAny_loadName_cell hk hl hc hv h) hd
end
section
variable {prog : Program} {w : World} {A : Around} {E : Value → Shared → Prop} {s : Shared}
theorem q_sum {a : Addr} {vs : List Value} {ns : List Int} (hh : A.handled = none) (hl : s.heap.IsList a vs.toArray) (hi : IntsAre vs ns) : Qt prog w A (call (.builtin "sum") [.ref a]) (fun v _ => ∃ t, v = .int ns.sum t) s := by
  obtain ⟨xs, hx⟩ := hi.allInts.items
  rw [hx] at hl
  have hn : (numsOf vs.toArray.toList).sum = ns.sum := by rw [show vs.toArray.toList = vs from rfl, hi.numsOf]
  refine Qt.mk (sum_intListG hh hl fun h' tk t' hk => ⟨⟨t', ?_⟩, h', tk, rfl, hk⟩)
  rw [← hn, hx, nums_intItems, preSum_eq, List.take_of_length_le (by simp)]
end
section
variable {prog : Program} {w : World} {A : Around} {E : Value → Shared → Prop} {s : Shared}
theorem src_rangeB {r : Addr} {n : Nat} {t u v : Tok} (hr : IsRange s.heap r 0 n 1 t u v) (hn : n < 1000000) : Src prog w (.ref r) s n (fun i v => i < n ∧ ∃ t, v = .int i t) [] := by
  intro A E Q hQ
  refine src_range hr hn A E Q fun I St s₂ hW hst hIt hsz k hI => hQ I St s₂ (fun A' hA => ?_) hst hIt hsz k hI
  have W := hW A' hA
  exact ⟨W.sub, W.frame, fun i s Q E hi st h => W.item i s Q E hi st fun v h' tk hP => h v h' tk ⟨hi, hP⟩, W.done, W.self⟩
end
theorem Fs.cl {s₀ s : Shared} {L c : Addr} {m cm : Str → Option Value} {cs : List (Str × Addr)} {n : Str} {v : Value} (F : Fs s₀ L m cs cm s) (hv : cm n = some v) (hc : cs.lookup n = some c := by rfl) : s.heap.IsCell c (some v) := by
  have := F.inC.cell n c hc
  rwa [hv] at this
theorem Up.itb {X : Addr → Prop} {sb s s' : Shared} {I : Addr} (u : Up X sb s) (h : sb.heap.get? I = none) (v : Up (· = I) s s') : Up X sb s' := by
  obtain ⟨⟨h1, t1, rfl⟩, a2, a3⟩ := u
  obtain ⟨⟨h2, t2, rfl⟩, b2, b3⟩ := v
  exact ⟨⟨h2, t2, rfl⟩, fun b o hb e => b2 b o (by rintro rfl; rw [h] at e; cases e) (a2 b o hb e), Nat.le_trans a3 b3⟩
theorem IL.up {s₀ s s' : Shared} {L r : Addr} {m cm : Str → Option Value} {cs : List (Str × Addr)} {vs : List Value} (hr : s.heap.IsList r vs.toArray) (F : Fs s₀ L m cs cm s) (u : Up (Mx L cs) s s') : s'.heap.IsList r vs.toArray := by
  obtain ⟨a', e, h⟩ := IsL.up (v := .ref r) ⟨r, rfl, hr⟩ F u
  cases e; exact h
theorem IL.k {s s' : Shared} {r : Addr} {vs : List Value} (hr : s.heap.IsList r vs.toArray) (k : Kp s s') : s'.heap.IsList r vs.toArray := hr.at fun o e => k.keep _ _ e
theorem IL.it {s s' : Shared} {r I : Addr} {vs : List Value} (hr : s.heap.IsList r vs.toArray) (h : It s I) (u : Up (· = I) s s') : s'.heap.IsList r vs.toArray := by
  obtain ⟨a', e, h⟩ := IsL.it (v := .ref r) ⟨r, rfl, hr⟩ h u
  cases e; exact h
theorem none_back {s s' : Shared} {I : Addr} (k : Kp s s') (h : s'.heap.get? I = none) : s.heap.get? I = none := by
  cases e : s.heap.get? I with
  | none => rfl
  | some o => have := k.keep _ _ e; rw [h] at this; cases this
section
variable {prog : Program} {w : World} {A : Around} {s₀ s : Shared} {m cm : Str → Option Value} {env : Env}
/-- a for loop over what its head makes -/
theorem st_forK {target iter : Expr} {body : List Stmt} {pos : Pos} {Q : Flow → Shared → Prop} {E : Value → Shared → Prop} (hA : A.handled = none)
    (he : wpAny (model prog w) A (eval iter env) (fun xv s => ∃ (n : Nat) (P : Nat → Value → Prop) (Y : List Addr) (X : Addr → Prop) (J : Nat → Shared → Prop), Src prog w xv s n P Y ∧
      (∀ b, X b → b ∉ Y ∧ ∃ o, s.heap.get? b = some o) ∧ (∀ s₁, Kp s s₁ → J 0 s₁) ∧ (∀ I i s₁ s₂, s.heap.get? I = none → J i s₁ → It s₁ I → Up (· = I) s₁ s₂ → J i s₂) ∧
      (∀ i v s₁, i < n → P i v → J i s₁ → wpAny (model prog w) A (assign target env v) (fun _ s₂ => wpAny (model prog w) A (execs body env) (fun f s₃ => match f with
      | .next | .cont => J (i + 1) s₃ ∧ Up X s₁ s₃ | .brk => False | .ret v => Q (.ret v) s₃) (fun _ _ => False) s₂) (fun _ _ => False) s₁) ∧
      (∀ s₁, J n s₁ → Q .next s₁)) E s)
    (hs : ∀ x, foldedSetIterable iter env x = pure x := by intro _; rfl)
    (ht : ∀ I v, letOwnedTupleGo target (.ref I) v = pure () := by intro _ _; rfl) :
    wpAny (model prog w) A (exec (.For target iter body [] pos) env) Q E s := by
  refine wpAny_For (wpAny_mono he (fun xv s₁ ⟨n, P, Y, X, J, hsrc, hX, h0, hJ, turn, done⟩ => hsrc _ _ _ fun I St s₂ hW hst hIt hsz k₂ hIs => ?_) fun _ _ e => e) hs
  have W := hW A hA
  have hXI : ∀ b, X b → b ∉ I :: Y := by
    intro b hb hm
    obtain ⟨hY, o, ho⟩ := hX b hb
    rcases List.mem_cons.mp hm with rfl | hm
    · rw [hIs] at ho; cases ho
    · exact hY hm
  refine codeAny_forLoop_any (fun k s' => ∃ i, i ≤ n ∧ k = n + 1 - i ∧ St i s'.heap ∧ J i s') ?_ (n + 1) ⟨0, Nat.zero_le _, rfl, hst, h0 _ k₂⟩
  rintro k s₃ ⟨i, hi, rfl, hst₃, hj⟩
  by_cases hlt : i < n
  · refine wpAny_with_toks (n := s₃.toks) (Nat.le_refl _) (W.item i s₃ _ _ hlt hst₃ fun v h' tk hP hst' hk htk => ?_)
    have u : Up (· = I) s₃ { s₃ with heap := h', toks := tk } := ⟨⟨h', tk, rfl⟩, fun b o hb e => hk b o (fun hm => hb (List.mem_singleton.mp hm)) e, htk⟩
    have hj' := hJ I i _ _ hIs hj (hIt i s₃ hst₃) u
    refine wpAny_of_eq (ht I v) ?_
    refine wpAny_mono (turn i v _ hlt hP hj') (fun _ s₄ h₄ => wpAny_mono h₄ (fun f s₅ h₅ => ?_) fun _ _ x => x.elim) fun _ _ x => x.elim
    have fin : J (i + 1) s₅ ∧ Up X { s₃ with heap := h', toks := tk } s₅ → ∃ m, m < n + 1 - i ∧ ∃ i, i ≤ n ∧ m = n + 1 - i ∧ St i s₅.heap ∧ J i s₅ := by
      rintro ⟨hj₅, u₅⟩
      exact ⟨n + 1 - (i + 1), by omega, i + 1, hlt, rfl, W.frame _ _ _ hst' fun b hb o e => u₅.2.1 b o (fun hx => hXI b hx hb) e, hj₅⟩
    cases f with
    | next => exact fin h₅
    | cont => exact fin h₅
    | brk => exact h₅.elim
    | ret v => exact h₅
  · have hin : i = n := by omega
    subst hin
    refine wpAny_with_toks (n := s₃.toks) (Nat.le_refl _) (W.done s₃ _ _ hst₃ fun h' tk hk htk => ?_)
    refine wpAny_execs_nil (done _ (hJ I i s₃ _ hIs hj (hIt i s₃ hst₃) ⟨⟨h', tk, rfl⟩, fun b o hb e => hk b o (fun hm => hb (List.mem_singleton.mp hm)) e, htk⟩))
end
section
variable {prog : Program} {w : World} {A : Around} {E : Value → Shared → Prop} {s : Shared} {env : Env}
theorem cstr {y : Str} {k : Nat} {pos : Pos} {Q : Value → Shared → Prop} (x : List Nat) (h : Q (.str (S x) s.toks) { s with toks := s.toks + 1 }) (hy : y = S x := by decide +kernel) :
    wpAny (model prog w) A (eval (.Constant (.str y) k pos) env) Q E s := by subst hy; exact Constant_str h
end
theorem Fs.none_up {s₀ sb s : Shared} {L I : Addr} {m cm : Str → Option Value} {cs : List (Str × Addr)} (Fb : Fs s₀ L m cs cm s) (u : Up (Mx L cs) sb s) (h : s.heap.get? I = none) : sb.heap.get? I = none := by
  cases e : sb.heap.get? I with
  | none => rfl
  | some o =>
    have : ¬ Mx L cs I := fun hx => by obtain ⟨o, e⟩ := Fb.has hx; rw [h] at e; cases e
    have := u.2.1 I o this e
    rw [h] at this; cases this
end Mine
end
section
open PySem PySem.W PyProof.Rows PySem.Calls
namespace Mine
noncomputable abbrev K2 (w : World) : Frag := hd2.heap_39 w.params
theorem esc0 {prog : Program} {w : World} {A : Around} {s : Shared} {d : Nat} {l : List Nat} {t : Tok} (G : Gd (K2 w) s.heap) (hA : Ok A d) (hl : l.length ≤ 100000) :
    Qt prog w A (call (.ref 33) [.str (S l) t]) (fun v _ => ∃ t', v = .str (S (l.flatMap (spell T0))) t') s := by
  refine fn_rule hA (G.K 33 _ (by rfl)) rfl G.lim (codeRec_of G.K (by kernel_rfl)) rfl (by rfl) rfl (by decide +kernel) (locs (by kernel_rfl)) ?_
  intro L s₁ F₁ ht
  have k₁ : 1 ≤ s₁.toks := Nat.le_trans (Nat.le_add_left 1 _) ht
  refine wpAny_execs_cons (wpAny_Try_except ?_)
  refine wpAny_execs_cons (esc_step (l := l) (T := []) (c := 38) (z := [38, 97, 109, 112, 59]) F₁ (by rw [flat_spell_nil]; rfl) k₁ hl ?_)
  intro s₂ m₂ t₂ F₂ h₂ k₂
  refine wpAny_execs_cons (esc_step (l := l) (c := 60) (z := [38, 108, 116, 59]) F₂ h₂ k₂ hl ?_)
  intro s₃ m₃ t₃ F₃ h₃ k₃
  refine wpAny_execs_cons (esc_step (l := l) (c := 62) (z := [38, 103, 116, 59]) F₃ h₃ k₃ hl ?_)
  intro s₄ m₄ t₄ F₄ h₄ k₄
  exact wpAny_execs_cons (wpAny_Return_some (nmL F₄ h₄ ⟨⟨_, rfl⟩, F₄.base⟩))
theorem esc1 {prog : Program} {w : World} {A : Around} {s : Shared} {d : Nat} {l : List Nat} {t : Tok} (G : Gd (K2 w) s.heap) (hA : Ok A d) (hl : l.length ≤ 100000) :
    Qt prog w A (call (.ref 40) [.str (S l) t]) (fun v _ => ∃ t', v = .str (S (l.flatMap (spell T1))) t') s := by
  refine fn_rule hA (G.K 40 _ (by rfl)) rfl G.lim (codeRec_of G.K (by kernel_rfl)) rfl (by rfl) rfl (by decide +kernel) (locs (by kernel_rfl)) ?_
  intro L s₁ F₁ ht
  have k₁ : 1 ≤ s₁.toks := Nat.le_trans (Nat.le_add_left 1 _) ht
  refine wpAny_execs_cons (wpAny_Try_except ?_)
  refine wpAny_execs_cons (esc_step (l := l) (T := []) (c := 38) (z := [38, 97, 109, 112, 59]) F₁ (by rw [flat_spell_nil]; rfl) k₁ hl ?_)
  intro s₂ m₂ t₂ F₂ h₂ k₂
  refine wpAny_execs_cons (esc_step (l := l) (c := 60) (z := [38, 108, 116, 59]) F₂ h₂ k₂ hl ?_)
  intro s₃ m₃ t₃ F₃ h₃ k₃
  refine wpAny_execs_cons (esc_step (l := l) (c := 62) (z := [38, 103, 116, 59]) F₃ h₃ k₃ hl ?_)
  intro s₄ m₄ t₄ F₄ h₄ k₄
  refine wpAny_execs_cons (esc_step (l := l) (c := 34) (z := [38, 113, 117, 111, 116, 59]) F₄ h₄ k₄ hl ?_)
  intro s₅ m₅ t₅ F₅ h₅ k₅
  refine wpAny_execs_cons (esc_step (l := l) (c := 13) (z := [38, 35, 49, 51, 59]) F₅ h₅ k₅ hl ?_)
  intro s₆ m₆ t₆ F₆ h₆ k₆
  refine wpAny_execs_cons (esc_step (l := l) (c := 10) (z := [38, 35, 49, 48, 59]) F₆ h₆ k₆ hl ?_)
  intro s₇ m₇ t₇ F₇ h₇ k₇
  refine wpAny_execs_cons (esc_step (l := l) (c := 9) (z := [38, 35, 48, 57, 59]) F₇ h₇ k₇ hl ?_)
  intro s₈ m₈ t₈ F₈ h₈ k₈
  exact wpAny_execs_cons (wpAny_Return_some (nmL F₈ h₈ ⟨⟨_, rfl⟩, F₈.base⟩))
theorem esc2 {prog : Program} {w : World} {A : Around} {s : Shared} {d : Nat} {l : List Nat} {t : Tok} (G : Gd (K2 w) s.heap) (hA : Ok A d) (hl : l.length ≤ 100000) :
    Qt prog w A (call (.ref 47) [.str (S l) t]) (fun v _ => ∃ t', v = .str (S (l.flatMap (spell T2))) t') s := by
  refine fn_rule hA (G.K 47 _ (by rfl)) rfl G.lim (codeRec_of G.K (by kernel_rfl)) rfl (by rfl) rfl (by decide +kernel) (locs (by kernel_rfl)) ?_
  intro L s₁ F₁ ht
  have k₁ : 1 ≤ s₁.toks := Nat.le_trans (Nat.le_add_left 1 _) ht
  refine wpAny_execs_cons (wpAny_Try_except ?_)
  refine wpAny_execs_cons (esc_step (l := l) (T := []) (c := 38) (z := [38, 97, 109, 112, 59]) F₁ (by rw [flat_spell_nil]; rfl) k₁ hl ?_)
  intro s₂ m₂ t₂ F₂ h₂ k₂
  refine wpAny_execs_cons (esc_step (l := l) (c := 62) (z := [38, 103, 116, 59]) F₂ h₂ k₂ hl ?_)
  intro s₃ m₃ t₃ F₃ h₃ k₃
  refine wpAny_execs_cons (esc_step (l := l) (c := 34) (z := [38, 113, 117, 111, 116, 59]) F₃ h₃ k₃ hl ?_)
  intro s₄ m₄ t₄ F₄ h₄ k₄
  exact wpAny_execs_cons (wpAny_Return_some (nmL F₄ h₄ ⟨⟨_, rfl⟩, F₄.base⟩))
theorem esc3 {prog : Program} {w : World} {A : Around} {s : Shared} {d : Nat} {l : List Nat} {t : Tok} (G : Gd (K2 w) s.heap) (hA : Ok A d) (hl : l.length ≤ 100000) :
    Qt prog w A (call (.ref 54) [.str (S l) t]) (fun v _ => ∃ t', v = .str (S (l.flatMap (spell T3))) t') s := by
  refine fn_rule hA (G.K 54 _ (by rfl)) rfl G.lim (codeRec_of G.K (by kernel_rfl)) rfl (by rfl) rfl (by decide +kernel) (locs (by kernel_rfl)) ?_
  intro L s₁ F₁ ht
  have k₁ : 1 ≤ s₁.toks := Nat.le_trans (Nat.le_add_left 1 _) ht
  refine wpAny_execs_cons (wpAny_Try_except ?_)
  refine wpAny_execs_cons (esc_step (l := l) (T := []) (c := 38) (z := [38, 97, 109, 112, 59]) F₁ (by rw [flat_spell_nil]; rfl) k₁ hl ?_)
  intro s₂ m₂ t₂ F₂ h₂ k₂
  refine wpAny_execs_cons (esc_step (l := l) (c := 60) (z := [38, 108, 116, 59]) F₂ h₂ k₂ hl ?_)
  intro s₃ m₃ t₃ F₃ h₃ k₃
  refine wpAny_execs_cons (esc_step (l := l) (c := 62) (z := [38, 103, 116, 59]) F₃ h₃ k₃ hl ?_)
  intro s₄ m₄ t₄ F₄ h₄ k₄
  refine wpAny_execs_cons (esc_step (l := l) (c := 13) (z := [38, 35, 120, 68, 59]) F₄ h₄ k₄ hl ?_)
  intro s₅ m₅ t₅ F₅ h₅ k₅
  exact wpAny_execs_cons (wpAny_Return_some (nmL F₅ h₅ ⟨⟨_, rfl⟩, F₅.base⟩))
theorem esc4 {prog : Program} {w : World} {A : Around} {s : Shared} {d : Nat} {l : List Nat} {t : Tok} (G : Gd (K2 w) s.heap) (hA : Ok A d) (hl : l.length ≤ 100000) :
    Qt prog w A (call (.ref 61) [.str (S l) t]) (fun v _ => ∃ t', v = .str (S (l.flatMap (spell T4))) t') s := by
  refine fn_rule hA (G.K 61 _ (by rfl)) rfl G.lim (codeRec_of G.K (by kernel_rfl)) rfl (by rfl) rfl (by decide +kernel) (locs (by kernel_rfl)) ?_
  intro L s₁ F₁ ht
  have k₁ : 1 ≤ s₁.toks := Nat.le_trans (Nat.le_add_left 1 _) ht
  refine wpAny_execs_cons (wpAny_Try_except ?_)
  refine wpAny_execs_cons (esc_step (l := l) (T := []) (c := 38) (z := [38, 97, 109, 112, 59]) F₁ (by rw [flat_spell_nil]; rfl) k₁ hl ?_)
  intro s₂ m₂ t₂ F₂ h₂ k₂
  refine wpAny_execs_cons (esc_step (l := l) (c := 60) (z := [38, 108, 116, 59]) F₂ h₂ k₂ hl ?_)
  intro s₃ m₃ t₃ F₃ h₃ k₃
  refine wpAny_execs_cons (esc_step (l := l) (c := 34) (z := [38, 113, 117, 111, 116, 59]) F₃ h₃ k₃ hl ?_)
  intro s₄ m₄ t₄ F₄ h₄ k₄
  refine wpAny_execs_cons (esc_step (l := l) (c := 9) (z := [38, 35, 120, 57, 59]) F₄ h₄ k₄ hl ?_)
  intro s₅ m₅ t₅ F₅ h₅ k₅
  refine wpAny_execs_cons (esc_step (l := l) (c := 10) (z := [38, 35, 120, 65, 59]) F₅ h₅ k₅ hl ?_)
  intro s₆ m₆ t₆ F₆ h₆ k₆
  refine wpAny_execs_cons (esc_step (l := l) (c := 13) (z := [38, 35, 120, 68, 59]) F₆ h₆ k₆ hl ?_)
  intro s₇ m₇ t₇ F₇ h₇ k₇
  exact wpAny_execs_cons (wpAny_Return_some (nmL F₇ h₇ ⟨⟨_, rfl⟩, F₇.base⟩))
end Mine
end
section
open PySem PySem.W PyProof.Rows PySem.Calls
namespace Mine
/-- what stands ahead of the i-th sign -/
noncomputable def PJ {s₀ sx : Shared} {L : Addr} {cs : List (Str × Addr)} {mx cm : Str → Option Value} (_ : Fs s₀ L mx cs cm sx) (r : Addr) (st : PSt) (s : Shared) : Prop :=
  ∃ m us t, Fs s₀ L m cs cm s ∧ m "res" = some (.ref r) ∧ m "part" = some (.str (S st.part) t) ∧ m "escape" = some (.bool st.esc) ∧ m "quote" = some (.bool st.quo) ∧
    s.heap.PlainList r us.toArray ∧ StrsAre us (st.res.map S)
noncomputable def Fs.X {s₀ sx : Shared} {L : Addr} {cs : List (Str × Addr)} {mx cm : Str → Option Value} (_ : Fs s₀ L mx cs cm sx) (b : Addr) : Prop := Mx L cs b

noncomputable def PE {s₀ sx : Shared} {L : Addr} {cs : List (Str × Addr)} {m cm : Str → Option Value} (_ : Fs s₀ L m cs cm sx) (r : Addr) (ps : List (List Nat)) (f : Flow) (s : Shared) : Prop :=
  f = .next ∧ Fs s₀ L m cs cm s ∧ ∃ us, s.heap.PlainList r us.toArray ∧ StrsAre us (ps.map S)
section
variable {prog : Program} {w : World} {A : Around} {E : Value → Shared → Prop} {s₀ s : Shared} {m cm : Str → Option Value} {env : Env} {n k : Str}
/-- n += k -/
theorem st_iadd {x y : List Nat} {t u : Tok} {p1 p2 p3 : Pos} {Q : Flow → Shared → Prop} (F : Fs s₀ env.locals m env.cells cm s) (hn : m n = some (.str (S x) t)) (hk' : m k = some (.str (S y) u)) (hsz : x.length + y.length ≤ 16777216)
    (h : ∀ s' t', Fs s₀ env.locals (Upd m n (.str (S (x ++ y)) t')) env.cells cm s' → Up (Mx env.locals env.cells) s s' → Q .next s')
    (hk : env.scope.kind = .function := by rfl) (hl : env.kindOf n = some .local := by rfl) (hl' : env.kindOf k = some .local := by rfl) (hd' : (k == ("__debug__" : Str)) = false := by decide) :
    wpAny (model prog w) A (exec (.AugAssign (.Name n p1) .Add (.Name k p2) p3) env) Q E s := by
  refine wpAny_AugAssign_Name (ldLC F.inC hk hl hn (nmL F hk' ?_ hk hl' hd'))
  refine (q_iadd hsz).then fun v s₁ ⟨t', e⟩ k₁ => ?_
  subst e
  exact stL (F.k k₁) (fun s₂ F₂ u₂ => h s₂ t' F₂ ((Up.of k₁).trans u₂)) hk hl
/-- n = True, n = False -/
theorem st_bool {b : Bool} {q : Nat} {p1 p2 p3 : Pos} {Q : Flow → Shared → Prop} (F : Fs s₀ env.locals m env.cells cm s)
    (h : ∀ s', Fs s₀ env.locals (Upd m n (.bool b)) env.cells cm s' → Up (Mx env.locals env.cells) s s' → Q .next s')
    (hk : env.scope.kind = .function := by rfl) (hl : env.kindOf n = some .local := by rfl) :
    wpAny (model prog w) A (exec (.Assign [.Name n p1] (.Constant (.bool b) q p2) p3) env) Q E s :=
  wpAny_Assign_Name (Constant_bool (stL F h hk hl))
/-- n == 'c' -/
theorem is_sign {x : List Nat} {t : Tok} {y : Str} {c : Nat} {q : Nat} {p1 p2 p3 : Pos} {whole : Sem Value} {Q : Bool → Shared → Prop} (F : Fs s₀ env.locals m env.cells cm s) (hn : m n = some (.str (S x) t))
    (h : Q (decide (x = [c])) { s with toks := s.toks + 1 }) (hy : y = S [c] := by decide +kernel)
    (hk : env.scope.kind = .function := by rfl) (hl : env.kindOf n = some .local := by rfl) (hd : (n == ("__debug__" : Str)) = false := by decide) :
    wpAny (model prog w) A (isTrue (.Compare (.Name n p1) [.Eq] [.Constant (.str y) q p2] p3) env whole) Q E s := by
  subst hy
  exact wpAny_isTrue_Compare1 (nmL F hn (Constant_str (eq_S (wpAny_truthy_bool h))) hk hl hd)
end

theorem parse_spec {prog : Program} {w : World} {A : Around} {s : Shared} {d : Nat} {l : List Nat} {t : Tok} (G : Gd (K2 w) s.heap) (hA : Ok A d) (hl : l.length ≤ 1000000) :
    Qt prog w A (call (.ref 19) [.str (S l) t]) (fun v s' => ∃ a vs, v = .ref a ∧ s.heap.get? a = none ∧ s'.heap.PlainList a vs.toArray ∧ StrsAre vs ((parseL l).map S)) s := by
  refine fn_rule hA (G.K 19 _ (by rfl)) rfl G.lim (codeRec_of G.K (by kernel_rfl)) rfl (by rfl) rfl (by decide +kernel) (locs (by kernel_rfl)) ?_
  intro L s₁ F₁ ht
  -- res = []
  refine wpAny_execs_cons (wpAny_Assign_Name (List_ (args_nil ((q_newList (by rw [sizeLine_eq]; simp)).then fun v s₂ hv k₂ => ?_))))
  obtain ⟨r, rfl, hr0, hr⟩ := hv
  have h0 : s.heap.get? r = none := by
    cases e : s.heap.get? r with
    | none => rfl
    | some o => have := F₁.base.keep _ _ e; rw [hr0] at this; cases this
  have F₂ := F₁.k k₂
  refine stL F₂ fun s₃ F₃ u₃ => ?_
  have hr₃ := PL.up hr F₂ u₃
  -- part = ''
  refine wpAny_execs_cons (wpAny_Assign_Name (Constant_str (stL (F₃.k (Kp.tok (Nat.le_succ _))) fun s₄ F₄ u₄ => ?_)))
  have hr₄ := PL.up (PL.k hr₃ (Kp.tok (Nat.le_succ _))) (F₃.k (Kp.tok (Nat.le_succ _))) u₄
  -- escape = quote = False
  refine wpAny_execs_cons (wpAny_Assign_two (Constant_bool (wpAny_assign_Name (stL F₄ fun s₅ F₅ u₅ => wpAny_assign_Name (stL F₅ fun s₆ F₆ u₆ => ?_)))))
  have hr₆ := PL.up (PL.up hr₄ F₄ u₅) F₅ u₆
  -- for cur in s
  refine wpAny_execs_cons (st_for (n := l.length) (P := SignAt (S l)) (Y := []) hA.1 (fun b => F₆.X b ∨ b = r) (fun i s' => PJ F₆ r (pfold (l.take i)) s') ?_ ?_ ?_ ?_ ?_ ?_)
  · refine nmL F₆ (v := .str (S l) t) (by rfl) ⟨?_, Kp.rfl'⟩
    have := src_str (prog := prog) (w := w) (s := s₆) (x := S l) (t := t)
    simpa using this
  · rintro b (hb | rfl)
    · exact ⟨by simp, F₆.has hb⟩
    · obtain ⟨n, ho⟩ := hr₆; exact ⟨by simp, _, ho⟩
  · intro s₇ k₇
    exact ⟨_, [], _, F₆.k k₇, by rfl, by rfl, by rfl, by rfl, PL.k hr₆ k₇, StrsAre.nil⟩
  · rintro I i sa sb hI ⟨m, us, t, F, a1, a2, a3, a4, a5, a6⟩ hIt u
    refine ⟨m, us, t, F.it hIt ?_ u, a1, a2, a3, a4, PL.it a5 hIt u, a6⟩
    cases e : s.heap.get? I with
    | none => rfl
    | some o => have := F₆.base.keep _ _ e; rw [hI] at this; cases this
  · rintro i v sa hi ⟨c, u, hc, rfl⟩ ⟨m, us, t, F, a1, a2, a3, a4, a5, a6⟩
    have hst := pfold_snoc hc
    have hlen := pfold_lens l i
    skip
    rw [hst]
    generalize pfold (l.take i) = st at a2 a3 a4 a6 hlen
    obtain ⟨rs, pt, es, qu⟩ := st
    dsimp only at a2 a3 a4 a6 hlen
    refine wpAny_assign_Name (stL F fun sb Fb ub => ?_)
    have rb := PL.up a5 F ub
    have b0 : Upd m "cur" (.str (S [c]) u) "cur" = _ := Upd.hit
    have b1 := Upd.miss (n := "cur") (v := .str (S [c]) u) (by decide) a1
    have b2 := Upd.miss (n := "cur") (v := .str (S [c]) u) (by decide) a2
    have b3 := Upd.miss (n := "cur") (v := .str (S [c]) u) (by decide) a3
    have b4 := Upd.miss (n := "cur") (v := .str (S [c]) u) (by decide) a4
    generalize Upd m "cur" (.str (S [c]) u) = mb at b0 b1 b2 b3 b4 Fb
    have up1 : ∀ {s₃ : Shared}, Up (Mx _ _) sb s₃ → Up (fun b => F₆.X b ∨ b = r) sa s₃ := fun u => (ub.trans u).mono fun _ h => .inl h
    have hlen1 : pt.length + [c].length ≤ 16777216 := by have := hlen.1; simp; omega
    -- if escape
    refine wpAny_execs_cons (wpAny_If (isTrue_plain (nmL Fb b3 (wpAny_truthy_bool ?_))))
    cases es with
    | true =>
      simp only [if_true]
      refine wpAny_execs_cons (st_iadd Fb b2 b0 hlen1 fun sc tc Fc uc => ?_)
      refine wpAny_execs_cons (st_bool Fc fun sd Fd ud => ?_)
      refine wpAny_execs_cons (wpAny_Continue ?_)
      refine ⟨⟨_, us, tc, Fd, ?_, ?_, ?_, ?_, PL.up (PL.up rb Fb uc) Fc ud, ?_⟩, up1 (uc.trans ud)⟩
      · exact Upd.miss (by decide) (Upd.miss (by decide) b1)
      · exact Upd.miss (by decide) Upd.hit
      · exact Upd.hit
      · exact Upd.miss (by decide) (Upd.miss (by decide) b4)
      · exact a6
    | false =>
      simp only [Bool.false_eq_true, if_false]
      refine wpAny_execs_nil ?_
      -- if quote
      refine wpAny_execs_cons (wpAny_If (isTrue_plain (nmL Fb b4 (wpAny_truthy_bool ?_))))
      cases qu with
      | true =>
        simp only [if_true]
        refine wpAny_execs_cons (wpAny_If (is_sign (c := 92) Fb b0 ?_))
        by_cases h92 : c = 92
        · subst h92
          simp only [decide_true, if_true]
          refine wpAny_execs_cons (st_bool (Fb.k (Kp.tok (Nat.le_succ _))) fun sd Fd ud => ?_)
          refine wpAny_execs_cons (wpAny_Continue ?_)
          have kk : Kp sb { sb with toks := sb.toks + 1 } := Kp.tok (Nat.le_succ _)
          refine ⟨⟨_, us, t, Fd, ?_, ?_, ?_, ?_, PL.up (PL.k rb kk) (Fb.k kk) ud, ?_⟩, up1 ((Up.of kk).trans ud)⟩
          · exact Upd.miss (by decide) b1
          · exact Upd.miss (by decide) b2
          · exact Upd.hit
          · exact Upd.miss (by decide) b4
          · exact a6
        · have e92 : decide (([c] : List Nat) = [92]) = false := by simp [h92]
          simp only [e92, Bool.false_eq_true, if_false]
          have kk : Kp sb { sb with toks := sb.toks + 1 } := Kp.tok (Nat.le_succ _)
          have kk2 : Kp sb { sb with toks := sb.toks + 1 + 1 } := Kp.tok (by omega)
          refine wpAny_execs_cons (wpAny_If (is_sign (c := 34) (Fb.k kk) b0 ?_))
          have hps : pstep ⟨rs, pt, false, true⟩ c = ⟨rs, pt ++ [c], false, decide (c ≠ 34)⟩ := by simp [pstep, h92]
          rw [hps]
          by_cases h34 : c = 34
          · subst h34
            simp only [decide_true, if_true]
            refine wpAny_execs_cons (st_bool (Fb.k kk2) fun sd Fd ud => wpAny_execs_nil (wpAny_execs_nil ?_))
            refine wpAny_execs_cons (st_iadd Fd (Upd.miss (by decide) b2) (Upd.miss (by decide) b0) hlen1 fun se te Fe ue => wpAny_execs_cons (wpAny_Continue ?_))
            refine ⟨⟨_, us, te, Fe, Upd.miss (by decide) (Upd.miss (by decide) b1), Upd.hit, Upd.miss (by decide) (Upd.miss (by decide) b3), Upd.miss (by decide) Upd.hit, PL.up (PL.up (PL.k rb kk2) (Fb.k kk2) ud) Fd ue, a6⟩, up1 (((Up.of kk2).trans ud).trans ue)⟩
          · have e34 : decide (([c] : List Nat) = [34]) = false := by simp [h34]
            simp only [e34, Bool.false_eq_true, if_false]
            refine wpAny_execs_nil (wpAny_execs_nil ?_)
            refine wpAny_execs_cons (st_iadd (Fb.k kk2) b2 b0 hlen1 fun se te Fe ue => wpAny_execs_cons (wpAny_Continue ?_))
            refine ⟨⟨_, us, te, Fe, Upd.miss (by decide) b1, Upd.hit, Upd.miss (by decide) b3, ?_, PL.up (PL.k rb kk2) (Fb.k kk2) ue, a6⟩, up1 ((Up.of kk2).trans ue)⟩
            rw [show decide (c ≠ 34) = true from by simp [h34]]
            exact Upd.miss (by decide) b4
      | false =>
        simp only [Bool.false_eq_true, if_false]
        refine wpAny_execs_nil ?_
        have kk : Kp sb { sb with toks := sb.toks + 1 } := Kp.tok (Nat.le_succ _)
        have kk2 : Kp sb { sb with toks := sb.toks + 1 + 1 } := Kp.tok (by omega)
        -- if cur == ','
        refine wpAny_execs_cons (wpAny_If (is_sign (c := 44) Fb b0 ?_))
        by_cases h44 : c = 44
        · subst h44
          simp only [decide_true, if_true]
          have hps : pstep ⟨rs, pt, false, false⟩ 44 = ⟨rs ++ [pt], [], false, false⟩ := by simp [pstep]
          rw [hps]
          have rk := PL.k rb kk
          refine wpAny_execs_cons (wpAny_Expr (Call_method1 rfl rfl rfl (nmL (Fb.k kk) b1 (onList PySem.F.slot_list_append PySem.F.type_list_append rk (cw1 (nmL (Fb.k kk) b2 ?_))))))
          have hus : us.length ≤ sizeLine := by
            have := a6.length
            rw [this, List.length_map, sizeLine_eq]; have := hlen.2; omega
          refine wpAny_mono (q_append (E := fun _ _ => False) rk hus) (fun x sc hx => ?_) fun _ _ f => f
          obtain ⟨rfl, rc, uc⟩ := hx
          dsimp only
          have Fc := (Fb.k kk).app rk h0 uc
          refine wpAny_execs_cons (wpAny_Assign_Name (Constant_str (stL (Fc.k (Kp.tok (Nat.le_succ _))) fun sd Fd ud => wpAny_execs_cons (wpAny_Continue ?_))))
          have kc : Kp sc { sc with toks := sc.toks + 1 } := Kp.tok (Nat.le_succ _)
          refine ⟨⟨_, us ++ [.str (S pt) t], _, Fd, Upd.miss (by decide) b1, Upd.hit, Upd.miss (by decide) b3, Upd.miss (by decide) b4, PL.up (PL.k rc kc) (Fc.k kc) ud, ?_⟩, ?_⟩
          · rw [List.map_append]; exact a6.append' (.cons _ _ .nil)
          · refine (((ub.trans (Up.of kk)).mono fun _ h => .inl h).trans (uc.mono fun _ h => .inr h)).trans (((Up.of kc).trans ud).mono fun _ h => .inl h)
        · have e44 : decide (([c] : List Nat) = [44]) = false := by simp [h44]
          simp only [e44, Bool.false_eq_true, if_false]
          refine wpAny_execs_nil ?_
          have hps : pstep ⟨rs, pt, false, false⟩ c = ⟨rs, pt ++ [c], false, decide (c = 34)⟩ := by simp [pstep, h44]
          rw [hps]
          refine wpAny_execs_cons (wpAny_If (is_sign (c := 34) (Fb.k kk) b0 ?_))
          by_cases h34 : c = 34
          · subst h34
            simp only [decide_true, if_true]
            refine wpAny_execs_cons (st_bool (Fb.k kk2) fun sd Fd ud => wpAny_execs_nil ?_)
            refine wpAny_execs_cons (st_iadd Fd (Upd.miss (by decide) b2) (Upd.miss (by decide) b0) hlen1 fun se te Fe ue => wpAny_execs_nil ?_)
            refine ⟨⟨_, us, te, Fe, Upd.miss (by decide) (Upd.miss (by decide) b1), Upd.hit, Upd.miss (by decide) (Upd.miss (by decide) b3), Upd.miss (by decide) Upd.hit, PL.up (PL.up (PL.k rb kk2) (Fb.k kk2) ud) Fd ue, a6⟩, up1 (((Up.of kk2).trans ud).trans ue)⟩
          · have e34 : decide (([c] : List Nat) = [34]) = false := by simp [h34]
            simp only [e34, Bool.false_eq_true, if_false]
            refine wpAny_execs_nil ?_
            refine wpAny_execs_cons (st_iadd (Fb.k kk2) b2 b0 hlen1 fun se te Fe ue => wpAny_execs_nil ?_)
            refine ⟨⟨_, us, te, Fe, Upd.miss (by decide) b1, Upd.hit, Upd.miss (by decide) b3, ?_, PL.up (PL.k rb kk2) (Fb.k kk2) ue, a6⟩, up1 ((Up.of kk2).trans ue)⟩
            rw [show decide (c = 34) = false from by simp [h34]]
            exact Upd.miss (by decide) b4
  · rintro sa ⟨m, us, t', F, a1, a2, a3, a4, a5, a6⟩
    rw [List.take_length] at a2 a3 a4 a6
    have hlens := pfold_lens l l.length
    rw [List.take_length] at hlens
    -- if part: res.append(part)
    refine wpAny_execs_cons (wpAny_mono (Q := PE F r (parseR l)) (E := fun _ _ => False) ?_ ?_ (fun _ _ f => f))
    · refine wpAny_If (isTrue_plain (nmL F a2 ((q_truthy (by omega)).then fun b sb hb kb => ?_)))
      have Fb := F.k kb
      have rb := PL.k a5 kb
      by_cases hp : (pfold l).part = []
      · have hR : parseR l = (pfold l).res := by simp [parseR, hp]
        rw [hp] at hb
        subst hb
        simp only [ne_eq, not_true_eq_false, decide_false, Bool.false_eq_true, if_false]
        exact wpAny_execs_nil ⟨rfl, Fb, us, rb, by rw [hR]; exact a6⟩
      · have hR : parseR l = (pfold l).res ++ [(pfold l).part] := by simp [parseR, hp]
        subst hb
        simp only [ne_eq, hp, not_false_eq_true, decide_true, if_true]
        have hus : us.length ≤ sizeLine := by
          have := a6.length
          rw [this, List.length_map, sizeLine_eq]; omega
        refine wpAny_execs_cons (wpAny_Expr (Call_method1 rfl rfl rfl (nmL Fb a1 (onList PySem.F.slot_list_append PySem.F.type_list_append rb (cw1 (nmL Fb a2 ?_))))))
        refine wpAny_mono (q_append (E := fun _ _ => False) rb hus) (fun x sc hx => ?_) fun _ _ f => f
        obtain ⟨rfl, rc, uc⟩ := hx
        exact wpAny_execs_nil ⟨rfl, Fb.app rb h0 uc, _, rc, by rw [hR, List.map_append]; exact a6.append' (.cons _ _ .nil)⟩
    · rintro f sb ⟨rfl, Fb, us, rb, hus⟩
      have hlen : us.length = (parseR l).length := by rw [hus.length, List.length_map]
      have hl1 := parseR_length l
      -- return [part.strip() for part in res]
      refine wpAny_execs_cons (wpAny_Return_some ?_)
      refine c_comp (n := us.length) (P := fun i v => us[i]? = some v) (Y := [r]) (cl := []) (fun _ => true) (ToS (stripL Unicode.isSpace)) hA.1 (by rw [sizeLine_eq]; omega) (nmL Fb a1 ⟨src_list rb.isList, Kp.rfl'⟩) ?_ ?_ ?_
      · intro C i v s₃ m₃ hP hns hm hk
        exact q_notest (v := v) rfl
      · intro C i v s₃ m₃ hP _ hns hm hk
        obtain ⟨x, tx, rfl, hx, _⟩ := strs_at hus hP
        have := parseR_items l x hx
        refine Call_method0 rfl rfl (nmN hns hm (onStr PySem.F.slot_str_strip PySem.F.type_str_strip (cw0 ((q_strip (by omega)).mono fun v s' ⟨t', e⟩ k => ?_))))
        subst e
        intro x' t'' e
        cases e
        exact ⟨t', rfl⟩
      · rintro a sc ha kc ⟨vs', ys, hpl, hvl, hvP, hpair⟩
        have e := same_items hvl hvP
        subst e
        rw [filter_all] at hpair
        refine ⟨⟨a, ys, rfl, ?_, hpl, paired_strs hus hpair⟩, Fb.base.trans kc⟩
        cases e : s.heap.get? a with
        | none => rfl
        | some o => have := Fb.base.keep _ _ e; rw [ha] at this; cases this
end Mine
end
section
open PySem PySem.W PyProof.Rows PySem.Calls
namespace Mine
/-- a pair of ints -/
noncomputable def IsPr (s : Shared) (v : Value) (p : Int × Int) : Prop := ∃ t u, IsT s v [.int p.1 t, .int p.2 u]
theorem IsPr.k {s s' : Shared} {v p} (x : IsPr s v p) (k : Kp s s') : IsPr s' v p := let ⟨t, u, h⟩ := x; ⟨t, u, h.k k⟩
theorem IsPr.hk {s s' : Shared} {v p} (x : IsPr s v p) (k : Hk s s') : IsPr s' v p := let ⟨t, u, h⟩ := x; ⟨t, u, h.hk k⟩
theorem IsPr.up {s₀ s s' : Shared} {L : Addr} {m cm : Str → Option Value} {cs : List (Str × Addr)} {v p} (x : IsPr s v p) (F : Fs s₀ L m cs cm s) (u : Up (Mx L cs) s s') : IsPr s' v p := let ⟨t, w, h⟩ := x; ⟨t, w, h.up F u⟩
theorem IsPr.it {s s' : Shared} {I : Addr} {v p} (x : IsPr s v p) (h : It s I) (u : Up (· = I) s s') : IsPr s' v p := let ⟨t, w, h'⟩ := x; ⟨t, w, h'.it h u⟩
section
variable {prog : Program} {w : World} {A : Around} {E : Value → Shared → Prop} {s : Shared}
theorem at_tup {value slice : Expr} {v x : Value} {vs : List Value} {k : Nat} {u : Tok} {Q : Value → Shared → Prop} (hl : IsT s v vs) (hv : vs[k]? = some x) (hk : k < 1000000) (h : Q x s)
    (hs : ∀ a, subscripted slice false (.ref a) (.int (k : Int) u) = operate [.ref a, .int (k : Int) u] (getItem (.ref a) (.int (k : Int) u)) := by intro _; with_unfolding_all rfl) :
    wpAny (model prog w) A (subscriptTail value slice v (.int (k : Int) u)) Q E s := by
  obtain ⟨a, rfl, hT⟩ := hl
  have hlt : k < vs.toArray.size := by
    obtain ⟨h', _⟩ := List.getElem?_eq_some_iff.mp hv
    simpa using h'
  refine tail_any hT.typeIs PySem.F.slot_tuple_getitem.lookup (PyProof.Rows.getItem_tuple hT (by omega) (by omega) ?_ (by simpa using hv) h) (hs a)
  have h0 : ¬ ((k : Int) < 0) := by omega
  simp [seqIndex?, h0]
  omega
theorem at_fst {value slice : Expr} {v : Value} {p : Int × Int} {u : Tok} {Q : Value → Shared → Prop} (hl : IsPr s v p) (h : ∀ t, Q (.int p.1 t) s)
    (hs : ∀ a, subscripted slice false (.ref a) (.int 0 u) = operate [.ref a, .int 0 u] (getItem (.ref a) (.int 0 u)) := by intro _; with_unfolding_all rfl) :
    wpAny (model prog w) A (subscriptTail value slice v (.int 0 u)) Q E s := by
  obtain ⟨t, t', hT⟩ := hl
  exact at_tup (k := 0) hT rfl (by decide) (h t) hs
theorem at_snd {value slice : Expr} {v : Value} {p : Int × Int} {u : Tok} {Q : Value → Shared → Prop} (hl : IsPr s v p) (h : ∀ t, Q (.int p.2 t) s)
    (hs : ∀ a, subscripted slice false (.ref a) (.int 1 u) = operate [.ref a, .int 1 u] (getItem (.ref a) (.int 1 u)) := by intro _; with_unfolding_all rfl) :
    wpAny (model prog w) A (subscriptTail value slice v (.int 1 u)) Q E s := by
  obtain ⟨t, t', hT⟩ := hl
  exact at_tup (k := 1) hT rfl (by decide) (h t') hs
theorem q_pair {x y : Int} {t u : Tok} : Qt prog w A (newTuple [.int x t, .int y u]) (fun v s' => IsPr s' v (x, y)) s :=
  (q_newTuple (by rw [sizeLine_eq]; simp)).mono fun v s' ⟨a, e, _, hT⟩ k => ⟨t, u, a, e, hT⟩
theorem q_unpackT {v : Value} {vs : List Value} (hA : A.handled = none) (hl : IsT s v vs) : Qt prog w A (unpackItems v vs.length none) (fun us _ => us = vs) s := by
  obtain ⟨a, rfl, hT⟩ := hl
  exact (q_unpack (n := vs.length) hA (src_tuple (vs := vs) hT) (fun Q E h => iterable_tuple hT Q E h)).mono fun us s' h _ => same_items h.1 h.2
theorem q_unpackP {v : Value} {p : Int × Int} {t u : Tok} (hA : A.handled = none) (hl : IsT s v [.int p.1 t, .int p.2 u]) : Qt prog w A (unpackItems v 2 none) (fun us _ => us = [.int p.1 t, .int p.2 u]) s := q_unpackT (vs := [.int p.1 t, .int p.2 u]) hA hl
theorem q_unpackL {v : Value} {vs : List Value} (hA : A.handled = none) (hl : IsL s v vs) : Qt prog w A (unpackItems v vs.length none) (fun us _ => us = vs) s := by
  obtain ⟨a, rfl, hT⟩ := hl
  exact (q_unpack (n := vs.length) hA (src_list (vs := vs) hT) (fun Q E h => iterable_list hT Q E h)).mono fun us s' h _ => same_items h.1 h.2
end
noncomputable def addP (p q : Int × Int) : Int × Int := (p.1 + q.1, p.2 + q.2)
theorem added_spec {prog : Program} {w : World} {A : Around} {s : Shared} {d : Nat} {x y : Value} {p q : Int × Int} (G : Gd (K2 w) s.heap) (hA : Ok A d) (hx : IsPr s x p) (hy : IsPr s y q) :
    Qt prog w A (call (.ref 94) [x, y]) (fun v s' => IsPr s' v (addP p q)) s := by
  refine fn_rule hA (G.K 94 _ (by rfl)) rfl G.lim (codeRec_of G.K (by kernel_rfl)) rfl (by rfl) rfl (by decide +kernel) (locs (by kernel_rfl)) ?_
  intro L s₁ F₁ ht
  have hx₁ := hx.k F₁.base
  have hy₁ := hy.k F₁.base
  refine wpAny_execs_cons ?_
  refine wpAny_Return_some ?_
  refine Tuple_ ?_
  refine args_cons ?_
  refine wpAny_BinOp ?_
  refine Subscript_ ?_
  refine nmL F₁ (v := x) (by rfl) ?_
  refine wpAny_Constant_int ?_
  refine at_fst (hx₁.k (Kp.tok (Nat.le_succ _))) fun t1 => ?_
  refine Subscript_ ?_
  refine nmL (F₁.k (Kp.tok (Nat.le_succ _))) (v := y) (by rfl) ?_
  refine wpAny_Constant_int ?_
  refine at_fst (hy₁.k (Kp.tok (k := s₁.toks + 1 + 1) (by omega))) fun t2 => ?_
  refine add_int ?_
  refine args_cons ?_
  refine wpAny_BinOp ?_
  refine Subscript_ ?_
  refine nmL (F₁.k (Kp.tok (k := s₁.toks + 1 + 1 + 1) (by omega))) (v := x) (by rfl) ?_
  refine wpAny_Constant_int ?_
  refine at_snd (hx₁.k (Kp.tok (k := s₁.toks + 1 + 1 + 1 + 1) (by omega))) fun t3 => ?_
  refine Subscript_ ?_
  refine nmL (F₁.k (Kp.tok (k := s₁.toks + 1 + 1 + 1 + 1) (by omega))) (v := y) (by rfl) ?_
  refine wpAny_Constant_int ?_
  refine at_snd (hy₁.k (Kp.tok (k := s₁.toks + 1 + 1 + 1 + 1 + 1) (by omega))) fun t4 => ?_
  refine add_int ?_
  refine args_nil ?_
  refine Qt.then q_pair ?_
  intro v s₂ h k
  exact ⟨h, F₁.base.trans ((Kp.tok (k := s₁.toks + 1 + 1 + 1 + 1 + 1 + 1) (by omega)).trans k)⟩
/-- the numbers told on -/
noncomputable def putW (b : Int) (l : List Nat) (a : Int) : Int := l.foldl (fun (w : Int) (c : Nat) => w * 3 + b * ((c : Nat) : Int)) a
noncomputable def putP (p : Int × Int) (l : List Nat) : Int × Int := (putW p.2 l p.1, p.2)
noncomputable def WJ {s₀ sx : Shared} {L : Addr} {cs : List (Str × Addr)} {mx cmx : Str → Option Value} (_ : Fs s₀ L mx cs cmx sx) (a b : Int) (s : Shared) : Prop :=
  ∃ m cm t u, Fs s₀ L m cs cm s ∧ m "whole" = some (.int a t) ∧ m "ways" = some (.int b u)
theorem put_spec {prog : Program} {w : World} {A : Around} {s : Shared} {d : Nat} {x : Value} {p : Int × Int} {l : List Nat} {tl : Tok} (G : Gd (K2 w) s.heap) (hA : Ok A d) (hx : IsPr s x p) (hl : ∀ c ∈ l, c < 1114112) (hlen : l.length ≤ 1000000) :
    Qt prog w A (call (.ref 87) [x, .str (S l) tl]) (fun v s' => IsPr s' v (putP p l)) s := by
  refine fn_rule hA (G.K 87 _ (by rfl)) rfl G.lim (codeRec_of G.K (by kernel_rfl)) rfl (by rfl) rfl (by decide +kernel) (locs (by kernel_rfl)) ?_
  intro L s₁ F₁ ht
  obtain ⟨tx, ux, hT⟩ := hx.k F₁.base
  refine wpAny_execs_cons ?_
  refine Assign_Tuple ?_
  refine nmL F₁ (v := x) (by rfl) ?_
  refine asg2 F₁ (q_unpackP hA.1 hT) fun s₂ F₂ u₂ => ?_
  refine wpAny_execs_cons ?_
  refine st_for (n := l.length) (P := SignAt (S l)) (Y := []) hA.1 F₂.X (fun i s' => WJ F₂ (putW p.2 (l.take i) p.1) p.2 s') ?_ ?_ ?_ ?_ ?_ ?_
  · refine nmL F₂ (v := .str (S l) tl) (by rfl) ⟨?_, Kp.rfl'⟩
    have := src_str (prog := prog) (w := w) (s := s₂) (x := S l) (t := tl)
    simpa using this
  · exact fun b hb => ⟨by simp, F₂.has hb⟩
  · intro s₃ k₃
    exact ⟨_, _, tx, ux, F₂.k k₃, Upd.miss (by decide) Upd.hit, Upd.hit⟩
  · rintro I i sa sb hI ⟨m, cm, t, u, F, e1, e2⟩ hIt up
    exact ⟨m, cm, t, u, F.it hIt (none_back F₂.base hI) up, e1, e2⟩
  · rintro i v sa hi ⟨c, uc, hc, rfl⟩ ⟨m, cm, t, u, F, e1, e2⟩
    have hc' : l[i]? = some c := by simpa using hc
    have hst : putW p.2 (l.take (i + 1)) p.1 = putW p.2 (l.take i) p.1 * 3 + p.2 * (c : Int) := by
      unfold putW
      rw [List.take_add_one, hc', List.foldl_append]; rfl
    rw [hst]
    generalize putW p.2 (l.take i) p.1 = a at e1
    refine wpAny_assign_Name ?_
    refine stL F fun sb Fb ub => ?_
    refine wpAny_execs_cons ?_
    refine wpAny_Assign_Name ?_
    refine wpAny_BinOp ?_
    refine wpAny_BinOp ?_
    refine nmL Fb (Upd.miss (by decide) e1) ?_
    refine wpAny_Constant_int ?_
    refine PyProof.Rows.mul_int ?_ (IntMulOk.of_right (by decide +kernel))
    refine wpAny_BinOp ?_
    have kb : Kp sb { sb with toks := sb.toks + 1 + 1 } := Kp.tok (by omega)
    have Gb : Gd (K2 w) sb.heap := G.h fun b o e => Fb.base.keep b o e
    refine nmL (Fb.k kb) (Upd.miss (by decide) e2) ?_
    refine Call_ ?_
    refine nmKB (v := .builtin "ord") (Gb.k kb) (by kernel_rfl) boot_ord ?_
    refine PyProof.Rows.callWith_builtin1 ?_
    refine args_cons ?_
    refine nmL (Fb.k kb) (v := .str (S [c]) uc) Upd.hit ?_
    refine args_nil ?_
    refine P.ord_of_char ?_
    refine PyProof.Rows.mul_int ?_ (IntMulOk.of_right ?_)
    · refine add_int ?_
      have kc : Kp sb { sb with toks := sb.toks + 1 + 1 + 1 + 1 + 1 } := Kp.tok (by omega)
      refine stL (Fb.k kc) fun sc Fc uc => ?_
      refine wpAny_execs_nil ?_
      exact ⟨⟨_, _, _, u, Fc, Upd.hit, Upd.miss (by decide) (Upd.miss (by decide) e2)⟩, (ub.trans (Up.of kc)).trans uc⟩
    · have hcl := hl c (List.mem_of_getElem? hc')
      show Builtin.Int.intBits ((c : Nat) : Int) ≤ 64
      unfold Builtin.Int.intBits
      split
      · omega
      · have h0 : c ≠ 0 := by rintro rfl; rename_i h; exact h rfl
        have : Nat.log2 c < 21 := (Nat.log2_lt h0).mpr (by omega)
        have e : ((c : Nat) : Int).natAbs = c := Int.natAbs_natCast c
        rw [e]; omega
  · rintro sa ⟨m, cm, t, u, F, e1, e2⟩
    rw [List.take_length] at e1
    refine wpAny_execs_cons ?_
    refine wpAny_Return_some ?_
    refine Tuple_ ?_
    refine args_cons ?_
    refine nmL F e1 ?_
    refine args_cons ?_
    refine nmL F e2 ?_
    refine args_nil ?_
    refine Qt.then q_pair ?_
    intro v s₂ h k
    exact ⟨h, F.base.trans k⟩
end Mine
end
section
open PySem PySem.W PyProof.Rows PySem.Calls
namespace Mine
inductive EaP (s : Shared) : List Value → List (Int × Int) → Prop
  | nil : EaP s [] []
  | cons {v p vs ps} : IsPr s v p → EaP s vs ps → EaP s (v :: vs) (p :: ps)
theorem EaP.k {s s' : Shared} {vs ps} (x : EaP s vs ps) (k : Kp s s') : EaP s' vs ps := by
  induction x with
  | nil => exact .nil
  | cons h _ ih => exact .cons (h.k k) ih
theorem EaP.hk {s s' : Shared} {vs ps} (x : EaP s vs ps) (k : Hk s s') : EaP s' vs ps := by
  induction x with
  | nil => exact .nil
  | cons h _ ih => exact .cons (h.hk k) ih
theorem EaP.up {s₀ s s' : Shared} {L : Addr} {m cm : Str → Option Value} {cs : List (Str × Addr)} {vs ps} (x : EaP s vs ps) (F : Fs s₀ L m cs cm s) (u : Up (Mx L cs) s s') : EaP s' vs ps := by
  induction x with
  | nil => exact .nil
  | cons h _ ih => exact .cons (h.up F u) ih
theorem EaP.it {s s' : Shared} {I : Addr} {vs ps} (x : EaP s vs ps) (h : It s I) (u : Up (· = I) s s') : EaP s' vs ps := by
  induction x with
  | nil => exact .nil
  | cons h' _ ih => exact .cons (h'.it h u) ih
theorem EaP.len {s : Shared} {vs ps} (x : EaP s vs ps) : vs.length = ps.length := by
  induction x with
  | nil => rfl
  | cons _ _ ih => simp [ih]
theorem EaP.get {s : Shared} {vs ps} (x : EaP s vs ps) : ∀ {i : Nat} {v : Value}, vs[i]? = some v → ∃ p, ps[i]? = some p ∧ IsPr s v p := by
  induction x with
  | nil => intro i v h; simp at h
  | @cons v p vs ps h _ ih =>
    intro i u hu
    cases i with
    | zero => simp at hu; subst hu; exact ⟨p, by simp, h⟩
    | succ i => simpa using ih (i := i) (by simpa using hu)
section
variable {prog : Program} {w : World} {A : Around} {E : Value → Shared → Prop} {s₀ s : Shared} {m cm : Str → Option Value} {env : Env} {d : Nat}
theorem e_added {x y : Str} {vx vy : Value} {p q : Int × Int} {p1 p2 p3 p4 : Pos} (F : Fs s₀ env.locals m env.cells cm s) (G : Gd (K2 w) s.heap) (hA : Ok A d) (hx : m x = some vx) (hy : m y = some vy) (ix : IsPr s vx p) (iy : IsPr s vy q)
    (hg : env.globals = mainGlobals := by rfl) (hk : env.scope.kind = .function := by rfl) (hn : env.kindOf "_law_added" = some .globalImplicit := by rfl) (hlx : env.kindOf x = some .local := by rfl) (hly : env.kindOf y = some .local := by rfl)
    (hdx : (x == ("__debug__" : Str)) = false := by decide) (hdy : (y == ("__debug__" : Str)) = false := by decide) :
    Qt prog w A (eval (.Call (.Name "_law_added" p1) [.Name x p2, .Name y p3] [] p4) env) (fun v s' => IsPr s' v (addP p q)) s := by
  refine Call_ ?_
  refine nmK (v := .ref 94) G (by kernel_rfl) ?_ hg hk hn
  refine gcall (G.K 94 _ (by rfl)) rfl ?_
  refine args_cons ?_
  refine nmL F hx ?_ hk hlx hdx
  refine args_cons ?_
  refine nmL F hy ?_ hk hly hdy
  refine args_nil ⟨Kp.rfl', ?_⟩
  exact added_spec G hA ix iy
theorem e_put {e : Expr} {p : Int × Int} {l : List Nat} {tl : Tok} {p1 p2 p4 : Pos} (F : Fs s₀ env.locals m env.cells cm s) (G : Gd (K2 w) s.heap) (hA : Ok A d) (hl : ∀ c ∈ l, c < 1114112) (hlen : l.length ≤ 1000000)
    (he : Qt prog w A (eval e env) (fun v s' => IsPr s' v p) s) (hu : m "spelled" = some (.str (S l) tl))
    (hst : starEach (e :: [.Name "spelled" p2]) env = (false, eval e env) :: starEach [.Name "spelled" p2] env := by rfl)
    (hg : env.globals = mainGlobals := by rfl) (hk : env.scope.kind = .function := by rfl) (hn : env.kindOf "_law_put" = some .globalImplicit := by rfl) (hlx : env.kindOf "spelled" = some .local := by rfl) :
    Qt prog w A (eval (.Call (.Name "_law_put" p1) [e, .Name "spelled" p2] [] p4) env) (fun v s' => IsPr s' v (putP p l)) s := by
  refine Call_ ?_
  refine nmK (v := .ref 87) G (by kernel_rfl) ?_ hg hk hn
  refine gcall (G.K 87 _ (by rfl)) rfl ?_ hst
  refine args_cons ?_ hst
  refine Qt.then he ?_
  intro v s₁ hv k₁
  refine args_cons ?_
  refine nmL (F.k k₁) hu ?_ hk hlx
  refine args_nil ⟨k₁, ?_⟩
  refine Qt.then (put_spec (G.k k₁) hA hv hl hlen) ?_
  intro r s₂ hr k₂
  exact ⟨hr, k₁.trans k₂⟩
theorem e_name {x : Str} {v : Value} {p : Int × Int} {pos : Pos} (F : Fs s₀ env.locals m env.cells cm s) (hx : m x = some v) (hp : IsPr s v p)
    (hk : env.scope.kind = .function := by rfl) (hlx : env.kindOf x = some .local := by rfl) (hdx : (x == ("__debug__" : Str)) = false := by decide) :
    Qt prog w A (eval (.Name x pos) env) (fun v s' => IsPr s' v p) s := nmL F hx ⟨hp, Kp.rfl'⟩ hk hlx hdx
theorem e_ints {a b : Int} {k1 k2 k : Nat} {p1 p2 p3 : Pos} : Qt prog w A (eval (.Tuple [.Constant (.int a) k1 p1, .Constant (.int b) k2 p2] k p3) env) (fun v s' => IsPr s' v (a, b)) s := by
  refine Tuple_ ?_
  refine args_cons ?_
  refine wpAny_Constant_int ?_
  refine args_cons ?_
  refine wpAny_Constant_int ?_
  refine args_nil ?_
  refine Qt.then q_pair ?_
  intro v s₁ h k
  exact ⟨h, (Kp.tok (k := s.toks + 1 + 1) (by omega)).trans k⟩
/-- a list display of four pairs -/
theorem e_four {e1 e2 e3 e4 : Expr} {pos : Pos} {q1 q2 q3 q4 : Int × Int} (h1 : ∀ s', Kp s s' → Qt prog w A (eval e1 env) (fun v s' => IsPr s' v q1) s') (h2 : ∀ s', Kp s s' → Qt prog w A (eval e2 env) (fun v s' => IsPr s' v q2) s')
    (h3 : ∀ s', Kp s s' → Qt prog w A (eval e3 env) (fun v s' => IsPr s' v q3) s') (h4 : ∀ s', Kp s s' → Qt prog w A (eval e4 env) (fun v s' => IsPr s' v q4) s')
    (hst : starEach [e1, e2, e3, e4] env = [(false, eval e1 env), (false, eval e2 env), (false, eval e3 env), (false, eval e4 env)] := by rfl) :
    Qt prog w A (eval (.List [e1, e2, e3, e4] pos) env) (fun v s' => ∃ a vs, v = .ref a ∧ s'.heap.PlainList a vs.toArray ∧ EaP s' vs [q1, q2, q3, q4]) s := by
  refine List_ ?_
  rw [hst]
  refine spliced_cons ?_
  refine Qt.then (h1 s Kp.rfl') ?_
  intro v1 s₁ r1 k₁
  refine spliced_cons ?_
  refine Qt.then (h2 s₁ k₁) ?_
  intro v2 s₂ r2 k₂
  refine spliced_cons ?_
  refine Qt.then (h3 s₂ (k₁.trans k₂)) ?_
  intro v3 s₃ r3 k₃
  refine spliced_cons ?_
  refine Qt.then (h4 s₃ ((k₁.trans k₂).trans k₃)) ?_
  intro v4 s₄ r4 k₄
  refine spliced_nil ?_
  refine Qt.then (q_newList (by rw [sizeLine_eq]; simp)) ?_
  rintro v s₅ ⟨a, rfl, _, hp⟩ k₅
  exact ⟨⟨a, _, rfl, hp, .cons ((((r1.k k₂).k k₃).k k₄).k k₅) (.cons (((r2.k k₃).k k₄).k k₅) (.cons ((r3.k k₄).k k₅) (.cons (r4.k k₅) .nil)))⟩, (((k₁.trans k₂).trans k₃).trans k₄).trans k₅⟩
/-- four local names off a list -/
theorem asg4 {n1 n2 n3 n4 : Str} {v x1 x2 x3 x4 : Value} {p1 p2 p3 p4 p5 : Pos} {q : Nat} {Q : Unit → Shared → Prop} (F : Fs s₀ env.locals m env.cells cm s) (hu : Qt prog w A (unpackItems v 4 none) (fun vs _ => vs = [x1, x2, x3, x4]) s)
    (h : ∀ s', Fs s₀ env.locals (Upd (Upd (Upd (Upd m n1 x1) n2 x2) n3 x3) n4 x4) env.cells cm s' → Up (Mx env.locals env.cells) s s' → Q () s')
    (hk : env.scope.kind = .function := by rfl) (h1 : env.kindOf n1 = some .local := by rfl) (h2 : env.kindOf n2 = some .local := by rfl) (h3 : env.kindOf n3 = some .local := by rfl) (h4 : env.kindOf n4 = some .local := by rfl) :
    wpAny (model prog w) A (assign (.Tuple [.Name n1 p1, .Name n2 p2, .Name n3 p3, .Name n4 p4] q p5) env v) Q E s := by
  rw [arm_assign_Tuple]
  refine wpAny_bind (wpAny_standAt ?_)
  unfold unpack
  refine wpAny_bind (wpAny_holding ?_)
  show wpAny _ _ (unpackItems v 4 none) _ _ _
  refine hu.then fun vs s₁ e k₁ => ?_
  subst e
  show wpAny _ _ (do holding [x2, x3, x4] (assign (.Name n1 p1) env x1); assignInOrder [assign (.Name n2 p2) env, assign (.Name n3 p3) env, assign (.Name n4 p4) env] [x2, x3, x4]) _ _ _
  refine wpAny_bind (wpAny_holding (wpAny_assign_Name (stL (F.k k₁) (fun s₂ F₂ u₂ => ?_) hk h1)))
  show wpAny _ _ (do holding [x3, x4] (assign (.Name n2 p2) env x2); assignInOrder [assign (.Name n3 p3) env, assign (.Name n4 p4) env] [x3, x4]) _ _ _
  refine wpAny_bind (wpAny_holding (wpAny_assign_Name (stL F₂ (fun s₃ F₃ u₃ => ?_) hk h2)))
  show wpAny _ _ (do holding [x4] (assign (.Name n3 p3) env x3); assignInOrder [assign (.Name n4 p4) env] [x4]) _ _ _
  refine wpAny_bind (wpAny_holding (wpAny_assign_Name (stL F₃ (fun s₄ F₄ u₄ => ?_) hk h3)))
  show wpAny _ _ (do holding [] (assign (.Name n4 p4) env x4); assignInOrder [] []) _ _ _
  refine wpAny_bind (wpAny_holding (wpAny_assign_Name (stL F₄ (fun s₅ F₅ u₅ => ?_) hk h4)))
  exact wpAny_pure (h s₅ F₅ (((((Up.of k₁).trans u₂).trans u₃).trans u₄).trans u₅))
end
noncomputable def movedL (f o i b : Int × Int) (c : Nat) (u : List Nat) : List (Int × Int) :=
  if c = 44 then [(2 * (addP f o).1, (addP f o).2), (0, 0), putP (addP i b) u, (0, 0)]
  else if c = 34 then [(0, 0), putP i u, putP (addP (addP f o) b) u, (0, 0)]
  else if c = 92 then [(0, 0), putP (addP f o) u, putP b u, i]
  else [(0, 0), putP (addP f o) u, putP (addP i b) u, (0, 0)]
theorem five_names {s₀ s : Shared} {L : Addr} {m0 cm : Str → Option Value} {cs : List (Str × Addr)} {v1 v2 v3 v4 vb xs xc : Value}
    (F : Fs s₀ L (Upd (Upd (Upd (Upd (Upd m0 "fresh" v1) "outside" v2) "inside" v3) "behind" v4) "bare" vb) cs cm s) (hS : m0 "spelled" = some xs) (hC : m0 "sign" = some xc) :
    ∃ m, Fs s₀ L m cs cm s ∧ m "spelled" = some xs ∧ m "sign" = some xc ∧ m "inside" = some v3 ∧ m "behind" = some v4 ∧ m "bare" = some vb :=
  ⟨_, F, Upd.miss (by decide) (Upd.miss (by decide) (Upd.miss (by decide) (Upd.miss (by decide) (Upd.miss (by decide) hS)))), Upd.miss (by decide) (Upd.miss (by decide) (Upd.miss (by decide) (Upd.miss (by decide) (Upd.miss (by decide) hC)))),
    Upd.miss (by decide) (Upd.miss (by decide) Upd.hit), Upd.miss (by decide) Upd.hit, Upd.hit⟩
theorem moved_spec {prog : Program} {w : World} {A : Around} {s : Shared} {d c : Nat} {a : Addr} {vs : List Value} {f o i b : Int × Int} {u : List Nat} {tc tu : Tok} (G : Gd (K2 w) s.heap) (hA : Ok A (d + 1)) (hl : s.heap.IsList a vs.toArray) (he : EaP s vs [f, o, i, b])
    (hu : ∀ c ∈ u, c < 1114112) (hlen : u.length ≤ 1000000) :
    Qt prog w A (call (.ref 101) [.ref a, .str (S [c]) tc, .str (S u) tu]) (fun v s' => ∃ a vs, v = .ref a ∧ s'.heap.PlainList a vs.toArray ∧ EaP s' vs (movedL f o i b c u)) s := by
  refine fn_rule hA (G.K 101 _ (by rfl)) rfl G.lim (codeRec_of G.K (by kernel_rfl)) rfl (by rfl) rfl (by decide +kernel) (locs (by kernel_rfl)) ?_
  intro L s₁ F₁ ht
  cases he with | @cons v1 _ vs1 _ i1 he =>
  cases he with | @cons v2 _ vs2 _ i2 he =>
  cases he with | @cons v3 _ vs3 _ i3 he =>
  cases he with | @cons v4 _ vs4 _ i4 he =>
  cases he
  have hU : ∀ A' : Around, A'.handled = none → Qt prog w A' (unpackItems (.ref a) 4 none) (fun us _ => us = [v1, v2, v3, v4]) s₁ := fun A' h' => q_unpackL (vs := [v1, v2, v3, v4]) h' ⟨a, rfl, IL.k hl F₁.base⟩
  refine wpAny_execs_cons ?_
  refine Assign_Tuple ?_
  refine nmL F₁ (v := .ref a) (by rfl) ?_
  refine asg4 F₁ (hU _ hA.1) fun s₂ F₂ u₂ => ?_
  have j1 := (i1.k F₁.base).up F₁ u₂
  have j2 := (i2.k F₁.base).up F₁ u₂
  have j3 := (i3.k F₁.base).up F₁ u₂
  have j4 := (i4.k F₁.base).up F₁ u₂
  have G₂ : Gd (K2 w) s₂.heap := G.h fun b o e => F₂.base.keep b o e
  refine wpAny_execs_cons ?_
  refine wpAny_Assign_Name ?_
  refine Qt.then (e_added (x := "fresh") (y := "outside") F₂ G₂ hA.deeper (vx := v1) (vy := v2) (Upd.miss (by decide) (Upd.miss (by decide) (Upd.miss (by decide) Upd.hit))) (Upd.miss (by decide) (Upd.miss (by decide) Upd.hit)) j1 j2) ?_
  intro vb s₃ jb k₃
  refine stL (F₂.k k₃) fun s₄ F₄ u₄ => ?_
  have j1 := (j1.k k₃).up (F₂.k k₃) u₄
  have j2 := (j2.k k₃).up (F₂.k k₃) u₄
  have j3 := (j3.k k₃).up (F₂.k k₃) u₄
  have j4 := (j4.k k₃).up (F₂.k k₃) u₄
  have jb := jb.up (F₂.k k₃) u₄
  obtain ⟨m, F, mS, mC, mI, mB, mb⟩ := five_names F₄ (xs := .str (S u) tu) (xc := .str (S [c]) tc) (by rfl) (by rfl)
  clear F₄
  have G₄ : Gd (K2 w) s₄.heap := G.h fun b o e => F.base.keep b o e
  -- if sign == ','
  refine wpAny_execs_cons ?_
  refine wpAny_If ?_
  refine is_sign (c := 44) F mC ?_
  have t1 : Kp s₄ { s₄ with toks := s₄.toks + 1 } := Kp.tok (Nat.le_succ _)
  by_cases h44 : c = 44
  · subst h44
    rw [show movedL f o i b 44 u = [(2 * (addP f o).1, (addP f o).2), (0, 0), putP (addP i b) u, (0, 0)] from rfl]
    simp only [decide_true, if_true]
    refine wpAny_execs_cons ?_
    refine wpAny_Return_some ?_
    refine Qt.then (e_four (q1 := (2 * (addP f o).1, (addP f o).2)) (q2 := (0, 0)) (q3 := putP (addP i b) u) (q4 := (0, 0)) ?_ ?_ ?_ ?_) ?_
    · intro s' k
      have k := t1.trans k
      refine Tuple_ ?_
      refine args_cons ?_
      refine wpAny_BinOp ?_
      refine wpAny_Constant_int ?_
      refine Subscript_ ?_
      refine nmL (F.k (k.trans (Kp.tok (Nat.le_succ _)))) mb ?_
      refine wpAny_Constant_int ?_
      refine at_fst (jb.k (k.trans (Kp.tok (k := s'.toks + 1 + 1) (by omega)))) fun t5 => ?_
      refine PyProof.Rows.mul_int ?_ (IntMulOk.of_left (by decide +kernel))
      refine args_cons ?_
      refine Subscript_ ?_
      refine nmL (F.k (k.trans (Kp.tok (k := s'.toks + 1 + 1 + 1) (by omega)))) mb ?_
      refine wpAny_Constant_int ?_
      refine at_snd (jb.k (k.trans (Kp.tok (k := s'.toks + 1 + 1 + 1 + 1) (by omega)))) fun t6 => ?_
      refine args_nil ?_
      refine Qt.then q_pair ?_
      intro v s₇ h k7
      exact ⟨h, (Kp.tok (k := s'.toks + 1 + 1 + 1 + 1) (by omega)).trans k7⟩
    · exact fun s' k => e_ints
    · intro s' k
      have k := t1.trans k
      exact e_put (F.k k) (G₄.k k) hA.deeper hu hlen (e_added (F.k k) (G₄.k k) hA.deeper mI mB (j3.k k) (j4.k k)) mS
    · exact fun s' k => e_ints
    · rintro v s' ⟨a', vs', rfl, hp, he⟩ k
      exact ⟨⟨a', vs', rfl, hp, he⟩, F.base.trans (t1.trans k)⟩
  have e44 : decide (([c] : List Nat) = [44]) = false := by simp [h44]
  simp only [e44, Bool.false_eq_true, if_false]
  refine wpAny_execs_nil ?_
  -- if sign == '"'
  refine wpAny_execs_cons ?_
  refine wpAny_If ?_
  refine is_sign (c := 34) (F.k t1) mC ?_
  have t2 : Kp s₄ { s₄ with toks := s₄.toks + 1 + 1 } := Kp.tok (by omega)
  by_cases h34 : c = 34
  · subst h34
    rw [show movedL f o i b 34 u = [(0, 0), putP i u, putP (addP (addP f o) b) u, (0, 0)] from rfl]
    simp only [decide_true, if_true]
    refine wpAny_execs_cons ?_
    refine wpAny_Return_some ?_
    refine Qt.then (e_four (q1 := (0, 0)) (q2 := putP i u) (q3 := putP (addP (addP f o) b) u) (q4 := (0, 0)) ?_ ?_ ?_ ?_) ?_
    · exact fun s' k => e_ints
    · intro s' k
      have k := t2.trans k
      exact e_put (F.k k) (G₄.k k) hA.deeper hu hlen (e_name (F.k k) mI (j3.k k)) mS
    · intro s' k
      have k := t2.trans k
      exact e_put (F.k k) (G₄.k k) hA.deeper hu hlen (e_added (F.k k) (G₄.k k) hA.deeper mb mB (jb.k k) (j4.k k)) mS
    · exact fun s' k => e_ints
    · rintro v s' ⟨a', vs', rfl, hp, he⟩ k
      exact ⟨⟨a', vs', rfl, hp, he⟩, F.base.trans (t2.trans k)⟩
  have e34 : decide (([c] : List Nat) = [34]) = false := by simp [h34]
  simp only [e34, Bool.false_eq_true, if_false]
  refine wpAny_execs_nil ?_
  refine wpAny_execs_cons ?_
  refine wpAny_If ?_
  refine is_sign (c := 92) (F.k t2) mC ?_
  have t3 : Kp s₄ { s₄ with toks := s₄.toks + 1 + 1 + 1 } := Kp.tok (by omega)
  by_cases h92 : c = 92
  · subst h92
    rw [show movedL f o i b 92 u = [(0, 0), putP (addP f o) u, putP b u, i] from rfl]
    simp only [decide_true, if_true]
    refine wpAny_execs_cons ?_
    refine wpAny_Return_some ?_
    refine Qt.then (e_four (q1 := (0, 0)) (q2 := putP (addP f o) u) (q3 := putP b u) (q4 := i) ?_ ?_ ?_ ?_) ?_
    · exact fun s' k => e_ints
    · intro s' k
      have k := t3.trans k
      exact e_put (F.k k) (G₄.k k) hA.deeper hu hlen (e_name (F.k k) mb (jb.k k)) mS
    · intro s' k
      have k := t3.trans k
      exact e_put (F.k k) (G₄.k k) hA.deeper hu hlen (e_name (F.k k) mB (j4.k k)) mS
    · intro s' k
      have k := t3.trans k
      exact e_name (F.k k) mI (j3.k k)
    · rintro v s' ⟨a', vs', rfl, hp, he⟩ k
      exact ⟨⟨a', vs', rfl, hp, he⟩, F.base.trans (t3.trans k)⟩
  have e92 : decide (([c] : List Nat) = [92]) = false := by simp [h92]
  simp only [e92, Bool.false_eq_true, if_false]
  refine wpAny_execs_nil ?_
  rw [show movedL f o i b c u = [(0, 0), putP (addP f o) u, putP (addP i b) u, (0, 0)] by unfold movedL; rw [if_neg h44, if_neg h34, if_neg h92]]
  refine wpAny_execs_cons ?_
  refine wpAny_Return_some ?_
  refine Qt.then (e_four (q1 := (0, 0)) (q2 := putP (addP f o) u) (q3 := putP (addP i b) u) (q4 := (0, 0)) ?_ ?_ ?_ ?_) ?_
  · exact fun s' k => e_ints
  · intro s' k
    have k := t3.trans k
    exact e_put (F.k k) (G₄.k k) hA.deeper hu hlen (e_name (F.k k) mb (jb.k k)) mS
  · intro s' k
    have k := t3.trans k
    exact e_put (F.k k) (G₄.k k) hA.deeper hu hlen (e_added (F.k k) (G₄.k k) hA.deeper mI mB (j3.k k) (j4.k k)) mS
  · exact fun s' k => e_ints
  · rintro v s' ⟨a', vs', rfl, hp, he⟩ k
    exact ⟨⟨a', vs', rfl, hp, he⟩, F.base.trans (t3.trans k)⟩
end Mine
end
section
open PySem PySem.W PyProof.Rows PySem.Calls
namespace Mine
noncomputable def sp (h : Nat) (l : List Nat) : List Nat := l.flatMap (spell (tabs.getD h []))
noncomputable def foldV (h : Nat) (ps : List (List Nat)) (v : Int) : Int := ps.foldl (fun v it => 2 * putW 1 (sp h it) v) v
noncomputable def valueL (h : Nat) (t : List Nat) : Int := foldV h (parseL t) 1
noncomputable def textsL (ps : List (Nat × Bool)) : List (List Nat) := ps.foldl (fun ts p => ts.map (fun t => t ++ [p.1]) ++ if p.2 then ts else []) [[]]
noncomputable def stepP (h : Nat) (P : List (Int × Int)) (p : Nat × Bool) : List (Int × Int) :=
  let M := movedL (P.getD 0 (0, 0)) (P.getD 1 (0, 0)) (P.getD 2 (0, 0)) (P.getD 3 (0, 0)) p.1 (spell (tabs.getD h []) p.1)
  if p.2 then M.zipWith addP P else M
noncomputable def placesL (h : Nat) (ps : List (Nat × Bool)) : List (Int × Int) := ps.foldl (stepP h) [(1, 1), (0, 0), (0, 0), (0, 0)]

theorem putW_app (b : Int) (l r : List Nat) (a : Int) : putW b (l ++ r) a = putW b r (putW b l a) := by unfold putW; rw [List.foldl_append]
theorem putW_add (b1 b2 : Int) : ∀ (l : List Nat) (a1 a2 : Int), putW (b1 + b2) l (a1 + a2) = putW b1 l a1 + putW b2 l a2
  | [], a1, a2 => rfl
  | c :: r, a1, a2 => by
    show putW (b1 + b2) r ((a1 + a2) * 3 + (b1 + b2) * ((c : Nat) : Int)) = putW b1 r (a1 * 3 + b1 * ((c : Nat) : Int)) + putW b2 r (a2 * 3 + b2 * ((c : Nat) : Int))
    rw [← putW_add b1 b2 r]
    congr 1
    rw [Int.add_mul, Int.add_mul]; omega
theorem putP_add (p q : Int × Int) (l : List Nat) : putP (addP p q) l = addP (putP p l) (putP q l) := by
  unfold putP addP
  rw [putW_add]
theorem putW_zero : ∀ l : List Nat, putW 0 l 0 = 0
  | [] => rfl
  | c :: r => by
    show putW 0 r (0 * 3 + 0 * ((c : Nat) : Int)) = 0
    rw [show (0 : Int) * 3 + 0 * ((c : Nat) : Int) = 0 by omega]; exact putW_zero r
theorem putP_zero (l : List Nat) : putP (0, 0) l = (0, 0) := by unfold putP; rw [putW_zero]

/-- where a reading stands -/
noncomputable def clS (st : PSt) : Nat := if st.part = [] then 0 else if st.esc then 3 else if st.quo then 2 else 1
noncomputable def rvS (h : Nat) (st : PSt) : Int := putW 1 (sp h st.part) (foldV h st.res 1)
noncomputable def okS (st : PSt) : Prop := (st.part = [] → st.esc = false ∧ st.quo = false) ∧ (st.esc = true → st.quo = true)
noncomputable def nxt (c : Nat) (u : List Nat) (x : Nat × Int) : Nat × Int :=
  if c = 44 then (if x.1 ≤ 1 then (0, 2 * x.2) else (2, putW 1 u x.2))
  else if c = 34 then (if x.1 ≤ 1 then (2, putW 1 u x.2) else if x.1 = 2 then (1, putW 1 u x.2) else (2, putW 1 u x.2))
  else if c = 92 then (if x.1 ≤ 1 then (1, putW 1 u x.2) else if x.1 = 2 then (3, x.2) else (2, putW 1 u x.2))
  else (if x.1 ≤ 1 then (1, putW 1 u x.2) else (2, putW 1 u x.2))
theorem rv_snoc (h : Nat) (res : List (List Nat)) (part : List Nat) (c : Nat) (e q e' q' : Bool) : rvS h ⟨res, part ++ [c], e, q⟩ = putW 1 (spell (tabs.getD h []) c) (rvS h ⟨res, part, e', q'⟩) := by
  unfold rvS sp
  rw [List.flatMap_append, putW_app]; simp
theorem rv_comma (h : Nat) (res : List (List Nat)) (part : List Nat) (e q e' q' : Bool) : rvS h ⟨res ++ [part], [], e, q⟩ = 2 * rvS h ⟨res, part, e', q'⟩ := by
  unfold rvS foldV
  rw [List.foldl_append]; rfl
theorem step_ok (h : Nat) (st : PSt) (ok : okS st) (c : Nat) : okS (pstep st c) ∧ (clS (pstep st c), rvS h (pstep st c)) = nxt c (spell (tabs.getD h []) c) (clS st, rvS h st) := by
  obtain ⟨res, part, e, q⟩ := st
  obtain ⟨ok1, ok2⟩ := ok
  dsimp only at ok1 ok2
  have hne : part ++ [c] ≠ [] := by simp
  cases e with
  | true =>
    have hq : q = true := ok2 rfl
    subst hq
    have hp : part ≠ [] := fun e => by have := (ok1 e).1; cases this
    have e1 : pstep ⟨res, part, true, true⟩ c = ⟨res, part ++ [c], false, true⟩ := by simp [pstep]
    have c1 : clS ⟨res, part, true, true⟩ = 3 := by simp [clS, hp]
    have c2 : clS ⟨res, part ++ [c], false, true⟩ = 2 := by simp [clS]
    rw [e1, c1, c2, rv_snoc h res part c false true true true]
    refine ⟨⟨fun e => absurd e hne, fun e => by cases e⟩, ?_⟩
    simp only [nxt]
    split <;> (try split) <;> (try split) <;> simp_all
  | false =>
    cases q with
    | true =>
      have hp : part ≠ [] := fun e => by have := (ok1 e).2; cases this
      have c1 : clS ⟨res, part, false, true⟩ = 2 := by simp [clS, hp]
      by_cases h92 : c = 92
      · subst h92
        have e1 : pstep ⟨res, part, false, true⟩ 92 = ⟨res, part, true, true⟩ := by simp [pstep]
        have c2 : clS ⟨res, part, true, true⟩ = 3 := by simp [clS, hp]
        rw [e1, c1, c2]
        exact ⟨⟨fun e => absurd e hp, fun _ => rfl⟩, by simp [nxt, rvS]⟩
      · by_cases h34 : c = 34
        · subst h34
          have e1 : pstep ⟨res, part, false, true⟩ 34 = ⟨res, part ++ [34], false, false⟩ := by simp [pstep]
          have c2 : clS ⟨res, part ++ [34], false, false⟩ = 1 := by simp [clS]
          rw [e1, c1, c2, rv_snoc h res part 34 false false false true]
          exact ⟨⟨fun e => absurd e hne, fun e => by cases e⟩, by simp [nxt]⟩
        · have e1 : pstep ⟨res, part, false, true⟩ c = ⟨res, part ++ [c], false, true⟩ := by simp [pstep, h92, h34]
          have c2 : clS ⟨res, part ++ [c], false, true⟩ = 2 := by simp [clS]
          rw [e1, c1, c2, rv_snoc h res part c false true false true]
          refine ⟨⟨fun e => absurd e hne, fun e => by cases e⟩, ?_⟩
          simp [nxt, h34, h92]
    | false =>
      have c1 : clS ⟨res, part, false, false⟩ ≤ 1 := by unfold clS; split <;> simp
      by_cases h44 : c = 44
      · subst h44
        have e1 : pstep ⟨res, part, false, false⟩ 44 = ⟨res ++ [part], [], false, false⟩ := by simp [pstep]
        have c2 : clS ⟨res ++ [part], [], false, false⟩ = 0 := by simp [clS]
        rw [e1, c2, rv_comma h res part false false false false]
        exact ⟨⟨fun _ => ⟨rfl, rfl⟩, fun e => by cases e⟩, by simp [nxt, c1]⟩
      · by_cases h34 : c = 34
        · subst h34
          have e1 : pstep ⟨res, part, false, false⟩ 34 = ⟨res, part ++ [34], false, true⟩ := by simp [pstep]
          have c2 : clS ⟨res, part ++ [34], false, true⟩ = 2 := by simp [clS]
          rw [e1, c2, rv_snoc h res part 34 false true false false]
          exact ⟨⟨fun e => absurd e hne, fun e => by cases e⟩, by simp [nxt, c1]⟩
        · have e1 : pstep ⟨res, part, false, false⟩ c = ⟨res, part ++ [c], false, false⟩ := by simp [pstep, h44, h34]
          have c2 : clS ⟨res, part ++ [c], false, false⟩ = 1 := by simp [clS]
          rw [e1, c2, rv_snoc h res part c false false false false]
          refine ⟨⟨fun e => absurd e hne, fun e => by cases e⟩, ?_⟩
          by_cases h92 : c = 92 <;> simp [nxt, h34, h44, h92, c1]
theorem pfold_app (l : List Nat) (c : Nat) : pfold (l ++ [c]) = pstep (pfold l) c := by unfold pfold; rw [List.foldl_append]; rfl
theorem snoc_rec {α : Type} {P : List α → Prop} (h0 : P []) (h1 : ∀ l a, P l → P (l ++ [a])) : ∀ l, P l := by
  intro l
  have key : ∀ (r l : List α), P l → P (l ++ r) := by
    intro r
    induction r with
    | nil => intro l h; simpa using h
    | cons a r ih => intro l h; have := ih (l ++ [a]) (h1 l a h); simpa using this
  simpa using key l [] h0
theorem pfold_ok : ∀ l, okS (pfold l) := by
  refine snoc_rec ⟨fun _ => ⟨rfl, rfl⟩, fun e => by cases e⟩ fun l c ih => ?_
  rw [pfold_app]; exact (step_ok 0 _ ih c).1
/-- a text's place and number -/
noncomputable def tellT (h : Nat) (t : List Nat) : Nat × Int := (clS (pfold t), rvS h (pfold t))
theorem tell_snoc (h : Nat) (t : List Nat) (c : Nat) : tellT h (t ++ [c]) = nxt c (spell (tabs.getD h []) c) (tellT h t) := by
  unfold tellT
  rw [pfold_app]; exact (step_ok h _ (pfold_ok t) c).2
theorem tell_le (h : Nat) (t : List Nat) : (tellT h t).1 ≤ 3 := by
  unfold tellT clS
  dsimp only
  split
  · omega
  · split
    · omega
    · split <;> omega
/-- the sums of one place -/
noncomputable def SumK (k : Nat) : List (Nat × Int) → Int × Int
  | [] => (0, 0)
  | x :: r => if x.1 = k then addP (x.2, 1) (SumK k r) else SumK k r
theorem addP_assoc (p q r : Int × Int) : addP (addP p q) r = addP p (addP q r) := by unfold addP; simp [Int.add_assoc]
theorem addP_zero (p : Int × Int) : addP (0, 0) p = p := by unfold addP; simp
theorem addP_zero' (p : Int × Int) : addP p (0, 0) = p := by unfold addP; simp
theorem addP_comm (p q : Int × Int) : addP p q = addP q p := by unfold addP; simp [Int.add_comm]
theorem SumK_app (k : Nat) : ∀ a b : List (Nat × Int), SumK k (a ++ b) = addP (SumK k a) (SumK k b)
  | [], b => by simp [SumK, addP_zero]
  | x :: r, b => by
    show (if x.1 = k then addP (x.2, 1) (SumK k (r ++ b)) else SumK k (r ++ b)) = addP (if x.1 = k then addP (x.2, 1) (SumK k r) else SumK k r) (SumK k b)
    rw [SumK_app k r b]
    split
    · rw [addP_assoc]
    · rfl
noncomputable def plL (T : List (Nat × Int)) : List (Int × Int) := [SumK 0 T, SumK 1 T, SumK 2 T, SumK 3 T]
theorem putP_one (r : Int) (u : List Nat) : putP (r, 1) u = (putW 1 u r, 1) := rfl
theorem dbl_add (p q : Int × Int) : (2 * (addP p q).1, (addP p q).2) = addP (2 * p.1, p.2) (2 * q.1, q.2) := by
  unfold addP; simp [Int.mul_add]
theorem pl_map (c : Nat) (u : List Nat) : ∀ T : List (Nat × Int), (∀ x ∈ T, x.1 ≤ 3) → plL (T.map (nxt c u)) = movedL (SumK 0 T) (SumK 1 T) (SumK 2 T) (SumK 3 T) c u
  | [], _ => by
    show [(0, 0), (0, 0), (0, 0), (0, 0)] = movedL (0, 0) (0, 0) (0, 0) (0, 0) c u
    unfold movedL
    have z : addP (0, 0) (0, 0) = (0, 0) := rfl
    have z2 : putP (0, 0) u = ((0, 0) : Int × Int) := putP_zero u
    split
    · rw [z, z2]; rfl
    · split
      · rw [z, z, z2]
      · split <;> rw [z, z2]
  | x :: T, h => by
    have ih := pl_map c u T fun y hy => h y (by simp [hy])
    have hx := h x (by simp)
    obtain ⟨k, r⟩ := x
    dsimp only at hx
    have cons : plL ((nxt c u (k, r)) :: T.map (nxt c u)) = [if (nxt c u (k, r)).1 = 0 then addP ((nxt c u (k, r)).2, 1) (SumK 0 (T.map (nxt c u))) else SumK 0 (T.map (nxt c u)),
      if (nxt c u (k, r)).1 = 1 then addP ((nxt c u (k, r)).2, 1) (SumK 1 (T.map (nxt c u))) else SumK 1 (T.map (nxt c u)),
      if (nxt c u (k, r)).1 = 2 then addP ((nxt c u (k, r)).2, 1) (SumK 2 (T.map (nxt c u))) else SumK 2 (T.map (nxt c u)),
      if (nxt c u (k, r)).1 = 3 then addP ((nxt c u (k, r)).2, 1) (SumK 3 (T.map (nxt c u))) else SumK 3 (T.map (nxt c u))] := rfl
    rw [List.map_cons, cons]
    unfold plL at ih
    have hk : k = 0 ∨ k = 1 ∨ k = 2 ∨ k = 3 := by omega
    generalize SumK 0 (T.map (nxt c u)) = a0 at ih ⊢
    generalize SumK 1 (T.map (nxt c u)) = a1 at ih ⊢
    generalize SumK 2 (T.map (nxt c u)) = a2 at ih ⊢
    generalize SumK 3 (T.map (nxt c u)) = a3 at ih ⊢
    have s0 : SumK 0 ((k, r) :: T) = if k = 0 then addP (r, 1) (SumK 0 T) else SumK 0 T := rfl
    have s1 : SumK 1 ((k, r) :: T) = if k = 1 then addP (r, 1) (SumK 1 T) else SumK 1 T := rfl
    have s2 : SumK 2 ((k, r) :: T) = if k = 2 then addP (r, 1) (SumK 2 T) else SumK 2 T := rfl
    have s3 : SumK 3 ((k, r) :: T) = if k = 3 then addP (r, 1) (SumK 3 T) else SumK 3 T := rfl
    rw [s0, s1, s2, s3]
    generalize SumK 0 T = b0 at ih ⊢
    generalize SumK 1 T = b1 at ih ⊢
    generalize SumK 2 T = b2 at ih ⊢
    generalize SumK 3 T = b3 at ih ⊢
    have L1 : ∀ p q z : Int × Int, addP p (addP q z) = addP q (addP p z) := fun p q z => by rw [← addP_assoc, addP_comm p q, addP_assoc]
    unfold movedL at ih ⊢
    by_cases h44 : c = 44
    · simp only [h44, if_true] at ih ⊢
      simp only [List.cons.injEq] at ih
      obtain ⟨rfl, rfl, rfl, rfl, _⟩ := ih
      rcases hk with rfl | rfl | rfl | rfl <;> simp [nxt, h44, dbl_add, addP_assoc, putP_add, putP_one, L1]
    · by_cases h34 : c = 34
      · simp only [h34, if_true, if_neg (show (34 : Nat) ≠ 44 by decide)] at ih ⊢
        simp only [List.cons.injEq] at ih
        obtain ⟨rfl, rfl, rfl, rfl, _⟩ := ih
        rcases hk with rfl | rfl | rfl | rfl <;> simp [nxt, h34, addP_assoc, putP_add, putP_one, L1]
      · by_cases h92 : c = 92
        · simp only [h92, if_true, if_neg (show (92 : Nat) ≠ 44 by decide), if_neg (show (92 : Nat) ≠ 34 by decide)] at ih ⊢
          simp only [List.cons.injEq] at ih
          obtain ⟨rfl, rfl, rfl, rfl, _⟩ := ih
          rcases hk with rfl | rfl | rfl | rfl <;> simp [nxt, h92, addP_assoc, putP_add, putP_one, L1]
        · simp only [if_neg h44, if_neg h34, if_neg h92] at ih ⊢
          simp only [List.cons.injEq] at ih
          obtain ⟨rfl, rfl, rfl, rfl, _⟩ := ih
          rcases hk with rfl | rfl | rfl | rfl <;> simp [nxt, h44, h34, h92, addP_assoc, putP_add, putP_one, L1]
theorem pl_app (a b : List (Nat × Int)) : plL (a ++ b) = (plL a).zipWith addP (plL b) := by
  unfold plL
  simp [SumK_app]
theorem places_are (h : Nat) : ∀ ps : List (Nat × Bool), placesL h ps = plL ((textsL ps).map (tellT h)) := by
  refine snoc_rec ?_ fun ps p ih => ?_
  · rfl
  · have e1 : placesL h (ps ++ [p]) = stepP h (placesL h ps) p := by unfold placesL; rw [List.foldl_append]; rfl
    have e2 : textsL (ps ++ [p]) = (textsL ps).map (fun t => t ++ [p.1]) ++ if p.2 then textsL ps else [] := by unfold textsL; rw [List.foldl_append]; rfl
    have e3 : ((textsL ps).map (fun t => t ++ [p.1])).map (tellT h) = ((textsL ps).map (tellT h)).map (nxt p.1 (spell (tabs.getD h []) p.1)) := by
      rw [List.map_map, List.map_map]
      exact List.map_congr_left fun t _ => tell_snoc h t p.1
    have hle : ∀ x ∈ (textsL ps).map (tellT h), x.1 ≤ 3 := by
      intro x hx; obtain ⟨t, _, rfl⟩ := List.mem_map.mp hx; exact tell_le h t
    rw [e1, e2, List.map_append, e3, pl_app, pl_map _ _ _ hle, ih]
    unfold stepP
    obtain ⟨c, b⟩ := p
    cases b with
    | true => rfl
    | false =>
      show movedL _ _ _ _ c _ = List.zipWith addP _ (plL [])
      have : ∀ f o i b : Int × Int, ∀ u, List.zipWith addP (movedL f o i b c u) (plL []) = movedL f o i b c u := by
        intro f o i b u
        have z : plL [] = [(0, 0), (0, 0), (0, 0), (0, 0)] := rfl
        rw [z]
        unfold movedL
        split
        · simp [addP_zero']
        · split
          · simp [addP_zero']
          · split <;> simp [addP_zero']
      exact (this _ _ _ _ _).symm
noncomputable def finT (x : Nat × Int) : Int := if x.1 = 0 then x.2 else 2 * x.2
theorem fin_sum : ∀ T : List (Nat × Int), (∀ x ∈ T, x.1 ≤ 3) → (T.map finT).sum = (SumK 0 T).1 + 2 * ((SumK 1 T).1 + (SumK 2 T).1 + (SumK 3 T).1)
  | [], _ => rfl
  | x :: T, h => by
    have ih := fin_sum T fun y hy => h y (by simp [hy])
    have hx := h x (by simp)
    obtain ⟨k, r⟩ := x
    dsimp only at hx
    rw [List.map_cons, List.sum_cons, ih]
    have hk : k = 0 ∨ k = 1 ∨ k = 2 ∨ k = 3 := by omega
    rcases hk with rfl | rfl | rfl | rfl <;> simp [SumK, finT, addP] <;> omega
noncomputable def Al2 : List Nat := [38, 34, 92, 44, 60, 39, 62]
theorem al2_sp : ∀ c ∈ Al2, Unicode.isSpace c = false := by decide +kernel
theorem strip_none {p : List Nat} (h : ∀ c ∈ p, Unicode.isSpace c = false) : stripL Unicode.isSpace p = p := by
  have dw : ∀ q : List Nat, (∀ c ∈ q, Unicode.isSpace c = false) → q.dropWhile Unicode.isSpace = q := by
    intro q hq
    cases q with
    | nil => rfl
    | cons a r => rw [List.dropWhile_cons, hq a (by simp)]; simp
  unfold stripL
  rw [dw p h, dw p.reverse (fun c hc => h c (by simpa using hc)), List.reverse_reverse]
theorem pfold_sub : ∀ l : List Nat, (∀ p ∈ (pfold l).res, ∀ c ∈ p, c ∈ l) ∧ ∀ c ∈ (pfold l).part, c ∈ l := by
  refine snoc_rec ⟨by simp [pfold], by simp [pfold]⟩ fun l a ih => ?_
  rw [pfold_app]
  obtain ⟨h1, h2⟩ := ih
  generalize pfold l = st at h1 h2 ⊢
  obtain ⟨res, part, e, q⟩ := st
  dsimp only at h1 h2
  have g1 : ∀ p ∈ res, ∀ c ∈ p, c ∈ l ++ [a] := fun p hp c hc => by simp [h1 p hp c hc]
  have g2 : ∀ c ∈ part, c ∈ l ++ [a] := fun c hc => by simp [h2 c hc]
  have g3 : ∀ c ∈ part ++ [a], c ∈ l ++ [a] := fun c hc => by
    rcases List.mem_append.mp hc with hc | hc
    · exact g2 c hc
    · simp [List.mem_singleton.mp hc]
  unfold pstep
  split
  · exact ⟨g1, g3⟩
  · split
    · split
      · exact ⟨g1, g2⟩
      · exact ⟨g1, g3⟩
    · split
      · refine ⟨fun p hp => ?_, by simp⟩
        rcases List.mem_append.mp hp with hp | hp
        · exact g1 p hp
        · rw [List.mem_singleton.mp hp]; exact g2
      · exact ⟨g1, g3⟩
theorem parse_sub (l : List Nat) : ∀ p ∈ parseR l, ∀ c ∈ p, c ∈ l := by
  obtain ⟨h1, h2⟩ := pfold_sub l
  intro p hp
  unfold parseR at hp
  rcases List.mem_append.mp hp with hp | hp
  · exact h1 p hp
  · split at hp
    · simp at hp
    · rw [List.mem_singleton.mp hp]; exact h2
theorem value_is (h : Nat) {t : List Nat} (ht : ∀ c ∈ t, c ∈ Al2) : valueL h t = finT (tellT h t) := by
  have e : parseL t = parseR t := by
    unfold parseL
    conv => rhs; rw [← List.map_id (parseR t)]
    exact List.map_congr_left fun p hp => strip_none fun c hc => al2_sp c (ht c (parse_sub t p hp c hc))
  unfold valueL
  rw [e]
  unfold parseR finT tellT clS
  dsimp only
  by_cases hp : (pfold t).part = []
  · rw [if_pos hp, if_pos hp]
    unfold rvS
    rw [hp, List.append_nil]
    rfl
  · rw [if_neg hp]
    have hne : (if (pfold t).part = [] then 0 else if (pfold t).esc = true then 3 else if (pfold t).quo = true then 2 else 1) ≠ 0 := by
      rw [if_neg hp]; split
      · decide
      · split <;> decide
    rw [if_neg hne]
    unfold rvS foldV
    rw [List.foldl_append]; rfl
theorem texts_sub : ∀ (ps : List (Nat × Bool)), (∀ p ∈ ps, p.1 ∈ Al2) → ∀ t ∈ textsL ps, ∀ c ∈ t, c ∈ Al2 := by
  refine snoc_rec (by intro _ t ht; simp [textsL] at ht; subst ht; simp) fun ps p ih hp t ht => ?_
  have ih' := ih fun q hq => hp q (by simp [hq])
  have e2 : textsL (ps ++ [p]) = (textsL ps).map (fun t => t ++ [p.1]) ++ if p.2 then textsL ps else [] := by unfold textsL; rw [List.foldl_append]; rfl
  rw [e2] at ht
  rcases List.mem_append.mp ht with ht | ht
  · obtain ⟨u, hu, rfl⟩ := List.mem_map.mp ht
    intro c hc
    rcases List.mem_append.mp hc with hc | hc
    · exact ih' u hu c hc
    · rw [List.mem_singleton.mp hc]; exact hp p (by simp)
  · split at ht
    · exact ih' t ht
    · simp at ht
theorem texts_lens : ∀ (ps : List (Nat × Bool)), (textsL ps).length ≤ 2 ^ ps.length ∧ ∀ t ∈ textsL ps, t.length ≤ ps.length := by
  refine snoc_rec (by simp [textsL]) fun ps p ih => ?_
  have e2 : textsL (ps ++ [p]) = (textsL ps).map (fun t => t ++ [p.1]) ++ if p.2 then textsL ps else [] := by unfold textsL; rw [List.foldl_append]; rfl
  rw [e2]
  obtain ⟨h1, h2⟩ := ih
  constructor
  · rw [List.length_append, List.length_map, List.length_append, List.length_singleton, Nat.pow_succ]
    split
    · omega
    · simp; omega
  · intro t ht
    rw [List.length_append, List.length_singleton]
    rcases List.mem_append.mp ht with ht | ht
    · obtain ⟨u, hu, rfl⟩ := List.mem_map.mp ht
      have := h2 u hu
      simp; exact this
    · split at ht
      · have := h2 t ht; omega
      · simp at ht
/-- the law, plain -/
theorem law2_plain (h : Nat) {ps : List (Nat × Bool)} (hp : ∀ p ∈ ps, p.1 ∈ Al2) :
    ∃ p0 p1 p2 p3, placesL h ps = [p0, p1, p2, p3] ∧ ((textsL ps).map (valueL h)).sum = p0.1 + 2 * (p1.1 + p2.1 + p3.1) := by
  refine ⟨_, _, _, _, places_are h ps, ?_⟩
  have hle : ∀ x ∈ (textsL ps).map (tellT h), x.1 ≤ 3 := by
    intro x hx; obtain ⟨t, _, rfl⟩ := List.mem_map.mp hx; exact tell_le h t
  rw [← fin_sum _ hle, List.map_map]
  congr 1
  exact List.map_congr_left fun t ht => value_is h (texts_sub ps hp t ht)
end Mine
end
section
open PySem PySem.W PyProof.Rows PySem.Calls
namespace Mine
noncomputable def sets2 : List (List Nat) := [[38, 60, 62], [38, 60, 62, 34], [38, 62, 34], [38, 60, 62], [38, 60, 34]]
noncomputable def alls2 : List Nat := [38, 60, 62, 34]
noncomputable def nms2 : List (List Nat) := [[97, 109, 112], [108, 116], [103, 116], [113, 117, 111, 116]]
theorem sign_facts2 : ∀ h ∈ List.range 5, ∀ c ∈ sets2.getD h [], Txt.find (S alls2) (S [c]) = ((alls2.idxOf c : Nat) : Int) ∧ alls2.idxOf c < 4 ∧ spell (tabs.getD h []) c = 38 :: nms2.getD (alls2.idxOf c) [] ++ [59] := by
  decide +kernel
theorem sign_off2 : ∀ h ∈ List.range 5, ∀ c ∈ Al2, c ∉ sets2.getD h [] → spell (tabs.getD h []) c = [c] := by decide +kernel
theorem sign_spec2 {prog : Program} {w : World} {A : Around} {s : Shared} {d hh c : Nat} {th tc : Tok} (G : Gd (K2 w) s.heap) (hA : Ok A d) (hh5 : hh < 5) (hcA : c ∈ Al2) :
    Qt prog w A (call (.ref 80) [.int (hh : Int) th, .str (S [c]) tc]) (fun v s' => ∃ t, v = .str (S (spell (tabs.getD hh []) c)) t) s := by
  refine fn_rule hA (G.K 80 _ (by rfl)) rfl G.lim (codeRec_of G.K (by kernel_rfl)) rfl (by rfl) rfl (by decide +kernel) (locs (by kernel_rfl)) ?_
  intro L s₁ F₁ ht
  have hr : hh ∈ List.range 5 := by simpa using hh5
  refine wpAny_execs_cons ?_
  refine wpAny_If ?_
  refine wpAny_isTrue_Compare1 ?_
  refine nmL F₁ (v := .str (S [c]) tc) (by rfl) ?_
  refine Subscript_ ?_
  refine List_ ?_
  refine args_cons ?_
  refine @cstr _ _ _ _ _ _ _ _ _ _ [38, 60, 62] ?_ (by decide +kernel)
  refine args_cons ?_
  refine @cstr _ _ _ _ _ _ _ _ _ _ [38, 60, 62, 34] ?_ (by decide +kernel)
  refine args_cons ?_
  refine @cstr _ _ _ _ _ _ _ _ _ _ [38, 62, 34] ?_ (by decide +kernel)
  refine args_cons ?_
  refine @cstr _ _ _ _ _ _ _ _ _ _ [38, 60, 62] ?_ (by decide +kernel)
  refine args_cons ?_
  refine @cstr _ _ _ _ _ _ _ _ _ _ [38, 60, 34] ?_ (by decide +kernel)
  refine args_nil ?_
  have k₂ : Kp s₁ { s₁ with toks := s₁.toks + 1 + 1 + 1 + 1 + 1 } := Kp.tok (by omega)
  refine Qt.then (q_newList (by rw [sizeLine_eq]; simp)) ?_
  rintro v s₂ ⟨a, rfl, ha0, hpl⟩ k₂'
  have F₂ := F₁.k (k₂.trans k₂')
  have hst : StrsAre _ (sets2.map S) := .cons (S [38, 60, 62]) s₁.toks (.cons (S [38, 60, 62, 34]) (s₁.toks + 1) (.cons (S [38, 62, 34]) (s₁.toks + 1 + 1) (.cons (S [38, 60, 62]) (s₁.toks + 1 + 1 + 1) (.cons (S [38, 60, 34]) (s₁.toks + 1 + 1 + 1 + 1) .nil))))
  obtain ⟨ti, hi⟩ := strs_get hst (i := hh) hh5
  refine nmL F₂ (v := .int (hh : Int) th) (by rfl) ?_
  refine at_idx hpl.isList hi (by omega) ?_
  refine SB.notContains (wpAny_truthy_bool ?_)
  rw [contains_S]
  by_cases hc : c ∈ sets2.getD hh []
  · simp only [hc, decide_true, Bool.not_true, Bool.false_eq_true, if_false]
    refine wpAny_execs_nil ?_
    obtain ⟨hfind, hidx, hsp⟩ := sign_facts2 hh hr c hc
    refine wpAny_execs_cons ?_
    refine wpAny_Return_some ?_
    refine wpAny_BinOp ?_
    refine wpAny_BinOp ?_
    refine @cstr _ _ _ _ _ _ _ _ _ _ [38] ?_ (by decide +kernel)
    refine Subscript_ ?_
    refine List_ ?_
    refine args_cons ?_
    refine @cstr _ _ _ _ _ _ _ _ _ _ [97, 109, 112] ?_ (by decide +kernel)
    refine args_cons ?_
    refine @cstr _ _ _ _ _ _ _ _ _ _ [108, 116] ?_ (by decide +kernel)
    refine args_cons ?_
    refine @cstr _ _ _ _ _ _ _ _ _ _ [103, 116] ?_ (by decide +kernel)
    refine args_cons ?_
    refine @cstr _ _ _ _ _ _ _ _ _ _ [113, 117, 111, 116] ?_ (by decide +kernel)
    refine args_nil ?_
    have k₅ : Kp s₂ { s₂ with toks := s₂.toks + 1 + 1 + 1 + 1 + 1 } := Kp.tok (by omega)
    refine Qt.then (q_newList (by rw [sizeLine_eq]; simp)) ?_
    rintro v s₅ ⟨an, rfl, _, hpn⟩ k₅'
    have F₅ := F₂.k (k₅.trans k₅')
    have hsn : StrsAre _ (nms2.map S) := .cons (S [97, 109, 112]) (s₂.toks + 1) (.cons (S [108, 116]) (s₂.toks + 1 + 1) (.cons (S [103, 116]) (s₂.toks + 1 + 1 + 1) (.cons (S [113, 117, 111, 116]) (s₂.toks + 1 + 1 + 1 + 1) .nil)))
    refine mc1 ?_
    refine @cstr _ _ _ _ _ _ _ _ _ _ alls2 ?_ (by decide +kernel)
    refine onStr PySem.F.slot_str_index PySem.F.type_str_index ?_
    refine cw1 ?_
    refine nmL (F₅.k (Kp.tok (Nat.le_succ _))) (v := .str (S [c]) tc) (by rfl) ?_
    have k₇ : Kp s₅ { s₅ with toks := s₅.toks + 1 + 1 } := Kp.tok (by omega)
    refine index_or hA.1 ?_ ?_
    · intro hneg
      rw [hfind] at hneg
      omega
    · intro _ _
      rw [hfind]
      have hn4 : alls2.idxOf c < nms2.length := hidx
      obtain ⟨tn, hn⟩ := strs_get hsn hn4
      refine at_idx (PL.k hpn k₇).isList hn (by omega) ?_
      have hnl : (nms2.getD (alls2.idxOf c) []).length ≤ 4 := by
        have : ∀ k ∈ List.range 4, (nms2.getD k []).length ≤ 4 := by decide +kernel
        exact this _ (by simpa using hidx)
      refine Qt.then (q_add (x := [38]) (y := nms2.getD (alls2.idxOf c) []) (by show 1 + _ ≤ _; omega)) ?_
      rintro v s₈ ⟨t8, rfl⟩ k₈
      refine @cstr _ _ _ _ _ _ _ _ _ _ [59] ?_ (by decide +kernel)
      refine Qt.then (q_add (y := [59]) (by rw [List.length_append]; show 1 + _ + 1 ≤ _; omega)) ?_
      rintro v s₉ ⟨t9, rfl⟩ k₉
      refine ⟨⟨t9, ?_⟩, F₅.base.trans ((k₇.trans k₈).trans ((Kp.tok (Nat.le_succ _)).trans k₉))⟩
      rw [hsp]; rfl
  · have hoff := sign_off2 hh hr c hcA hc
    simp only [hc, decide_false, Bool.not_false, if_true]
    refine wpAny_execs_cons ?_
    refine wpAny_Return_some ?_
    refine nmL F₂ (v := .str (S [c]) tc) (by rfl) ⟨⟨tc, by rw [hoff]⟩, F₂.base⟩
end Mine
end
section
open PySem PySem.W PyProof.Rows PySem.Calls
namespace Mine
/-- each as R says -/
inductive Ea {α : Type} (R : Value → α → Prop) : List Value → List α → Prop
  | nil : Ea R [] []
  | cons {v a vs xs} : R v a → Ea R vs xs → Ea R (v :: vs) (a :: xs)
theorem Ea.mono {α : Type} {R R' : Value → α → Prop} {vs xs} (x : Ea R vs xs) (h : ∀ v a, R v a → R' v a) : Ea R' vs xs := by
  induction x with
  | nil => exact .nil
  | cons h' _ ih => exact .cons (h _ _ h') ih
theorem Ea.len {α : Type} {R : Value → α → Prop} {vs xs} (x : Ea R vs xs) : vs.length = xs.length := by
  induction x with
  | nil => rfl
  | cons _ _ ih => simp [ih]
theorem Ea.get {α : Type} {R : Value → α → Prop} {vs xs} (x : Ea R vs xs) : ∀ {i : Nat} {v : Value}, vs[i]? = some v → ∃ p, xs[i]? = some p ∧ R v p := by
  induction x with
  | nil => intro i v h; simp at h
  | @cons v p vs ps h _ ih =>
    intro i u hu
    cases i with
    | zero => simp at hu; subst hu; exact ⟨p, by simp, h⟩
    | succ i => simpa using ih (i := i) (by simpa using hu)
theorem Ea.snoc {α : Type} {R : Value → α → Prop} {vs xs v a} (x : Ea R vs xs) (h : R v a) : Ea R (vs ++ [v]) (xs ++ [a]) := by
  induction x with
  | nil => exact .cons h .nil
  | cons h' _ ih => exact .cons h' ih
/-- a sign and whether it may be left out -/
noncomputable def IsPa (s : Shared) (v : Value) (p : Nat × Bool) : Prop := ∃ t, IsT s v [.str (S [p.1]) t, .bool p.2]
theorem IsPa.k {s s' : Shared} {v p} (x : IsPa s v p) (k : Kp s s') : IsPa s' v p := let ⟨t, h⟩ := x; ⟨t, h.k k⟩
theorem IsPa.up {s₀ s s' : Shared} {L : Addr} {m cm : Str → Option Value} {cs : List (Str × Addr)} {v p} (x : IsPa s v p) (F : Fs s₀ L m cs cm s) (u : Up (Mx L cs) s s') : IsPa s' v p := let ⟨t, h⟩ := x; ⟨t, h.up F u⟩
theorem IsPa.it {s s' : Shared} {I : Addr} {v p} (x : IsPa s v p) (h : It s I) (u : Up (· = I) s s') : IsPa s' v p := let ⟨t, h'⟩ := x; ⟨t, h'.it h u⟩
theorem IsPa.app {s s' : Shared} {r : Addr} {its : Array Value} {v p} (x : IsPa s v p) (hr : s.heap.PlainList r its) (u : Up (· = r) s s') : IsPa s' v p := by
  obtain ⟨t, a, e, o, ho, hc, n, hd⟩ := x
  obtain ⟨n', ho'⟩ := hr
  refine ⟨t, a, e, o, u.2.1 a o ?_ ho, hc, n, hd⟩
  rintro rfl
  rw [ho'] at ho; cases ho
  injection hc with h
  exact absurd h (by decide)
abbrev Pas (s : Shared) (vs : List Value) (ps : List (Nat × Bool)) : Prop := Ea (IsPa s) vs ps
section
variable {prog : Program} {w : World} {A : Around} {E : Value → Shared → Prop} {s : Shared} {env : Env}
theorem e_sb {c : Nat} {y : Str} {b : Bool} {k1 k2 k : Nat} {p1 p2 p3 : Pos} (hy : y = S [c] := by decide +kernel) : Qt prog w A (eval (.Tuple [.Constant (.str y) k1 p1, .Constant (.bool b) k2 p2] k p3) env) (fun v s' => IsPa s' v (c, b)) s := by
  refine Tuple_ ?_
  refine args_cons ?_
  refine cstr [c] ?_ hy
  refine args_cons ?_
  refine Constant_bool ?_
  refine args_nil ?_
  refine Qt.then (q_newTuple (by rw [sizeLine_eq]; simp)) ?_
  rintro v s₁ ⟨a, e, _, h⟩ k
  exact ⟨⟨_, a, e, h⟩, (Kp.tok (Nat.le_succ _)).trans k⟩
end
noncomputable def strip8 : List Nat := [39, 44, 34, 92, 38, 62, 44, 34]
theorem strip8_al : ∀ c ∈ strip8, c ∈ Al2 := by decide +kernel
noncomputable def SJ2 {s₀ sx : Shared} {L : Addr} {cs : List (Str × Addr)} {mx cm : Str → Option Value} (_ : Fs s₀ L mx cs cm sx) (nv : Value) (r : Addr) (i : Nat) (s : Shared) : Prop :=
  ∃ m us ps, Fs s₀ L m cs cm s ∧ m "numbers" = some nv ∧ m "pairs" = some (.ref r) ∧ s.heap.PlainList r us.toArray ∧ Pas s us ps ∧ (∀ p ∈ ps, p.1 ∈ Al2) ∧ ps.length = 6 + i
theorem strip_spec {prog : Program} {w : World} {A : Around} {s : Shared} {d : Nat} {a : Addr} {vs : List Value} {ns : List Int} (G : Gd (K2 w) s.heap) (hA : Ok A d)
    (hl : s.heap.IsList a vs.toArray) (hi : IntsAre vs ns) (h5 : ns.length ≤ 5) :
    Qt prog w A (call (.ref 68) [.ref a]) (fun v s' => ∃ b us ps, v = .ref b ∧ s'.heap.IsList b us.toArray ∧ Pas s' us ps ∧ (∀ p ∈ ps, p.1 ∈ Al2) ∧ ps.length ≤ 11) s := by
  refine fn_rule hA (G.K 68 _ (by rfl)) rfl G.lim (codeRec_of G.K (by kernel_rfl)) rfl (by rfl) rfl (by decide +kernel) (locs (by kernel_rfl)) ?_
  intro L s₁ F₁ ht
  have hvl : vs.length = ns.length := by rw [hi.length]
  -- pairs = [..]
  refine wpAny_execs_cons ?_
  refine wpAny_Assign_Name ?_
  refine List_ ?_
  refine args_cons ?_
  refine @Qt.then _ _ _ _ _ _ _ _ _ (e_sb (c := 38)) ?_
  intro v1 t1 q1 j1
  refine args_cons ?_
  refine @Qt.then _ _ _ _ _ _ _ _ _ (e_sb (c := 34)) ?_
  intro v2 t2 q2 j2
  refine args_cons ?_
  refine @Qt.then _ _ _ _ _ _ _ _ _ (e_sb (c := 92)) ?_
  intro v3 t3 q3 j3
  refine args_cons ?_
  refine @Qt.then _ _ _ _ _ _ _ _ _ (e_sb (c := 44)) ?_
  intro v4 t4 q4 j4
  refine args_cons ?_
  refine @Qt.then _ _ _ _ _ _ _ _ _ (e_sb (c := 34)) ?_
  intro v5 t5 q5 j5
  refine args_cons ?_
  refine @Qt.then _ _ _ _ _ _ _ _ _ (e_sb (c := 60)) ?_
  intro v6 t6 q6 j6
  refine args_nil ?_
  refine Qt.then (q_newList (by rw [sizeLine_eq]; simp)) ?_
  rintro v s₂ ⟨r, rfl, hr0, hp⟩ k₂
  have jj : Kp s₁ s₂ := (((((j1.trans j2).trans j3).trans j4).trans j5).trans j6).trans k₂
  have F₂ := F₁.k jj
  have hps : Pas s₂ [v1, v2, v3, v4, v5, v6] [(38, false), (34, true), (92, true), (44, false), (34, true), (60, false)] :=
    .cons (((((((q1.k j2).k j3).k j4).k j5).k j6)).k k₂) (.cons ((((((q2.k j3).k j4).k j5).k j6)).k k₂) (.cons (((((q3.k j4).k j5).k j6)).k k₂) (.cons ((((q4.k j5).k j6)).k k₂) (.cons ((q5.k j6).k k₂) (.cons (q6.k k₂) .nil)))))
  refine stL F₂ fun s₃ F₃ u₃ => ?_
  have h0 : s.heap.get? r = none := none_back (F₁.base.trans (((((j1.trans j2).trans j3).trans j4).trans j5).trans j6)) hr0
  have hp₃ := PL.up hp F₂ u₃
  have hps₃ : Pas s₃ _ _ := hps.mono fun _ _ x => x.up F₂ u₃
  have G₃ : Gd (K2 w) s₃.heap := G.h fun b o e => F₃.base.keep b o e
  have hl₃ := IL.k hl F₃.base
  refine wpAny_execs_cons ?_
  refine st_for (n := vs.length) (P := fun i v => i < vs.length ∧ ∃ t, v = .int i t) (Y := []) hA.1 (fun b => F₃.X b ∨ b = r) (fun i s' => SJ2 F₃ (.ref a) r i s') ?_ ?_ ?_ ?_ ?_ ?_
  · refine Call_ ?_
    refine nmKB (v := .type "range") G₃ (by kernel_rfl) boot_range ?_
    refine PyProof.Rows.callWith_type1 ?_
    refine args_cons ?_
    refine Call_ ?_
    refine nmKB (v := .builtin "len") G₃ (by kernel_rfl) boot_len ?_
    refine PyProof.Rows.callWith_builtin1 ?_
    refine args_cons ?_
    refine nmL F₃ (v := .ref a) (Upd.miss (by decide) (by rfl)) ?_
    refine args_nil ?_
    refine call_len_list hl₃ (by rw [List.size_toArray]; omega) ?_
    refine args_nil ?_
    rw [List.size_toArray]
    refine call_range_1 ?_
    exact ⟨src_rangeB (n := vs.length) (IsRange.new _ _ _ _ _ _ _) (by omega), (Kp.tok (k := s₃.toks + 1 + 1) (by omega)).trans (Kp.heap (by show s₃.toks + 1 + 1 ≤ s₃.toks + 1 + 1 + 1 + 1; omega) fun b o e => Heap.get?_push_of_some _ e)⟩
  · rintro b (hb | rfl)
    · exact ⟨by simp, F₃.has hb⟩
    · obtain ⟨n, ho⟩ := hp₃; exact ⟨by simp, _, ho⟩
  · intro s₇ k₇
    exact ⟨_, _, _, F₃.k k₇, Upd.miss (by decide) (by rfl), Upd.hit, PL.k hp₃ k₇, hps₃.mono fun _ _ x => x.k k₇, by decide, rfl⟩
  · rintro I i sa sb hI ⟨m, us, ps, F, a1, a2, a3, a4, a5, a6⟩ hIt u
    exact ⟨m, us, ps, F.it hIt (none_back F₃.base hI) u, a1, a2, PL.it a3 hIt u, a4.mono fun _ _ x => x.it hIt u, a5, a6⟩
  · rintro i v sa hin ⟨_, tv, rfl⟩ ⟨m, us, ps, F, a1, a2, a3, a4, a5, a6⟩
    refine wpAny_assign_Name ?_
    refine stL F fun sb Fb ub => ?_
    have rb := PL.up a3 F ub
    have pb : Pas sb us ps := a4.mono fun _ _ x => x.up F ub
    have b1 := Upd.miss (n := "k") (v := .int (i : Int) tv) (by decide) a1
    have b2 := Upd.miss (n := "k") (v := .int (i : Int) tv) (by decide) a2
    have b0 : Upd m "k" (.int (i : Int) tv) "k" = _ := Upd.hit
    generalize Upd m "k" (.int (i : Int) tv) = mb at b0 b1 b2 Fb
    have hlb := IL.k hl Fb.base
    obtain ⟨v, hv⟩ : ∃ v, vs[i]? = some v := ⟨vs[i], List.getElem?_eq_getElem hin⟩
    obtain ⟨n, tn, rfl, hn⟩ := ints_at hi hv
    refine wpAny_execs_cons ?_
    refine wpAny_Expr ?_
    refine mc1 ?_
    refine nmL Fb b2 ?_
    refine onList PySem.F.slot_list_append PySem.F.type_list_append rb ?_
    refine cw1 ?_
    refine Qt.then (V := fun v s' => ∃ c b, c ∈ Al2 ∧ IsPa s' v (c, b)) ?_ ?_
    · refine Tuple_ ?_
      refine args_cons ?_
      refine Subscript_ ?_
      refine cstr strip8 ?_
      have kt : Kp sb { sb with toks := sb.toks + 1 } := Kp.tok (Nat.le_succ _)
      refine wpAny_BinOp ?_
      refine Subscript_ ?_
      refine nmL (Fb.k kt) b1 ?_
      refine nmL (Fb.k kt) b0 ?_
      refine at_idx (IL.k hlb kt) hv (by omega) ?_
      refine wpAny_Constant_int ?_
      refine mod_int' (by decide) ?_
      have hf0 : 0 ≤ n.fmod 8 := Int.fmod_nonneg_of_pos n (by omega)
      have hf1 : n.fmod 8 < 8 := Int.fmod_lt_of_pos n (by omega)
      obtain ⟨k, hk8, hkf⟩ : ∃ k : Nat, k < 8 ∧ n.fmod 8 = (k : Int) := ⟨(n.fmod 8).toNat, by omega, by omega⟩
      rw [hkf]
      have hki : strip8[k]? = some strip8[k] := List.getElem?_eq_getElem hk8
      refine tail_of_ItemOn ⟨"str", _, PySem.F.slot_str_getitem.lookup, typeIs_str _ _ _, P.getItem_str (c := strip8[k]) ?_ ?_ ?_⟩ (by with_unfolding_all rfl) (by intro _; with_unfolding_all rfl)
      · rw [Bool.or_eq_false_iff]; exact ⟨decide_eq_false (by omega), decide_eq_false (by omega)⟩
      · exact StrLaws.at_nonneg (by omega) (by simpa using hki)
      have kt2 : Kp sb { sb with toks := sb.toks + 1 + 1 + 1 + 1 } := Kp.tok (by omega)
      refine args_cons ?_
      refine Qt.then (V := fun v s' => ∃ b, v = .bool b) ?_ ?_
      · refine BoolOp_and ?_
        refine wpAny_Compare1 ?_
        refine nmL (Fb.k kt2) b0 ?_
        refine wpAny_Constant_int ?_
        refine P.eq_int ?_
        refine wpAny_truthy_bool ?_
        split
        · refine BoolOp_one ?_
          refine wpAny_Compare1 ?_
          refine wpAny_BinOp ?_
          refine wpAny_BinOp ?_
          refine Subscript_ ?_
          refine nmL (Fb.k (kt2.trans (Kp.tok (Nat.le_succ _)))) b1 ?_
          refine nmL (Fb.k (kt2.trans (Kp.tok (Nat.le_succ _)))) b0 ?_
          refine at_idx (IL.k hlb (kt2.trans (Kp.tok (Nat.le_succ _)))) hv (by omega) ?_
          refine wpAny_Constant_int ?_
          refine floordiv_int (by decide) ?_ (Or.inl (PyProof.noPylong_of_log2 (by decide +kernel)))
          refine wpAny_Constant_int ?_
          refine mod_int' (by decide) ?_
          refine wpAny_Constant_int ?_
          refine P.eq_int ?_
          exact ⟨⟨_, rfl⟩, Kp.tok (by show sb.toks + 1 + 1 + 1 + 1 ≤ sb.toks + 1 + 1 + 1 + 1 + 1 + 1 + 1 + 1 + 1 + 1; omega)⟩
        · exact ⟨⟨_, rfl⟩, Kp.tok (Nat.le_succ _)⟩
      · rintro v sc ⟨b, rfl⟩ kc
        refine args_nil ?_
        refine Qt.then (q_newTuple (by rw [sizeLine_eq]; simp)) ?_
        rintro v sd ⟨aT, rfl, _, hT⟩ kd
        exact ⟨⟨strip8[k], b, strip8_al _ (List.getElem_mem _), _, aT, rfl, hT⟩, (kt2.trans kc).trans kd⟩
    · rintro v sc ⟨c, b, hc, hv'⟩ kc
      have rc := PL.k rb kc
      have hus : us.length ≤ sizeLine := by
        have := a4.len
        rw [this, a6, sizeLine_eq]; omega
      refine wpAny_mono (q_append (E := fun _ _ => False) rc hus) (fun x sd hx => ?_) fun _ _ f => f
      obtain ⟨rfl, rd, ud⟩ := hx
      have Fd := (Fb.k kc).app rc h0 ud
      refine wpAny_execs_nil ?_
      refine ⟨⟨_, _, ps ++ [(c, b)], Fd, b1, b2, rd, ?_, ?_, ?_⟩, ?_⟩
      · exact (pb.mono fun _ _ x => (x.k kc).app rc ud).snoc (hv'.app rc ud)
      · intro p hp
        rcases List.mem_append.mp hp with hp | hp
        · exact a5 p hp
        · rw [List.mem_singleton.mp hp]; exact hc
      · rw [List.length_append, a6]; simp; omega
      · exact ((ub.trans (Up.of kc)).mono fun _ h => .inl h).trans (ud.mono fun _ h => .inr h)
  · rintro sa ⟨m, us, ps, F, a1, a2, a3, a4, a5, a6⟩
    refine wpAny_execs_cons ?_
    refine wpAny_Return_some ?_
    refine nmL F a2 ⟨⟨r, us, ps, rfl, a3.isList, a4, a5, by omega⟩, F.base⟩
end Mine
end
section
open PySem PySem.W PyProof.Rows PySem.Calls
namespace Mine
section
variable {prog : Program} {w : World} {A : Around} {E : Value → Shared → Prop} {s₀ s : Shared} {m cm : Str → Option Value} {env : Env}
/-- a for loop over a list of tuples, with a tuple of names -/
theorem st_forL {elts : List Expr} {x1 : Nat} {tpos : Pos} {iter : Expr} {body : List Stmt} {pos : Pos} {a : Addr} {vs : List Value} {Q : Flow → Shared → Prop} (hA : A.handled = none)
    (X : Addr → Prop) (J : Nat → Shared → Prop)
    (he : Qt prog w A (eval iter env) (fun xv s₁ => xv = .ref a ∧ s₁.heap.IsList a vs.toArray) s)
    (hX : ∀ b, X b → b ≠ a ∧ ∃ o, s.heap.get? b = some o)
    (h0 : ∀ s₁, Kp s s₁ → J 0 s₁)
    (hJ : ∀ I i s₁ s₂, s.heap.get? I = none → J i s₁ → It s₁ I → Up (· = I) s₁ s₂ → J i s₂)
    (hr : ∀ (i : Nat) (v : Value), vs[i]? = some v → ∃ T, v = .ref T)
    (turn : ∀ (i : Nat) (v : Value) s₁, vs[i]? = some v → J i s₁ → wpAny (model prog w) A (assign (.Tuple elts x1 tpos) env v) (fun _ s₂ => wpAny (model prog w) A (execs body env) (fun f s₃ => match f with
      | .next | .cont => J (i + 1) s₃ ∧ Up X s₁ s₃ | .brk => False | .ret v => Q (.ret v) s₃) (fun _ _ => False) s₂) (fun _ _ => False) s₁)
    (done : ∀ s₁, J vs.length s₁ → Q .next s₁)
    (hs : ∀ x, foldedSetIterable iter env x = pure x) :
    wpAny (model prog w) A (exec (.For (.Tuple elts x1 tpos) iter body [] pos) env) Q E s := by
  refine wpAny_For (he.then fun xv s₁ ⟨e, hl⟩ k₁ => ?_) hs
  subst e
  have hne : a ≠ s₁.heap.objs.size := by obtain ⟨o, ho, _⟩ := hl; exact Nat.ne_of_lt (Heap.lt_size ho)
  refine wpAny_pyIter_list hl ?_
  generalize hI : s₁.heap.objs.size = I at hne
  have hIs1 : s₁.heap.get? I = none := hI ▸ none_size _
  have hIs : s.heap.get? I = none := none_back k₁ hIs1
  have W := Walks.list (prog := prog) (w := w) (A := A) hA I a hne vs.toArray
  have st0 : (s₁.heap.push { cls := .type "list_iterator", data := .fields #[.ref a, .int 0 0] }).IsListIter I a 0 := hI ▸ ⟨_, Heap.get?_push_size _ rfl, rfl, rfl⟩
  have hXI : ∀ b, X b → b ∉ [I, a] := by
    intro b hb hm
    obtain ⟨hY, o, ho⟩ := hX b hb
    rcases List.mem_cons.mp hm with rfl | hm
    · rw [hIs] at ho; cases ho
    · exact hY (List.mem_singleton.mp hm)
  have hIt : ∀ i (s : Shared), s.heap.IsListIter I a i → It s I := fun i s ⟨o, ho, _, hd⟩ => ⟨o, _, ho, hd⟩
  refine codeAny_forLoop_any (fun k s' => ∃ i, i ≤ vs.length ∧ k = vs.length + 1 - i ∧ (s'.heap.IsListIter I a i ∧ s'.heap.IsList a vs.toArray) ∧ J i s') ?_ (vs.length + 1) ⟨0, Nat.zero_le _, rfl, ⟨st0, hl.push _⟩, h0 _ (k₁.trans (Kp.push _))⟩
  rintro k s₃ ⟨i, hi, rfl, hst₃, hj⟩
  by_cases hlt : i < vs.length
  · refine wpAny_with_toks (n := s₃.toks) (Nat.le_refl _) (W.item i s₃ _ _ (by simpa using hlt) hst₃ fun v h' tk hP hst' hk htk => ?_)
    have hP' : vs[i]? = some v := by simpa using hP
    have u : Up (· = I) s₃ { s₃ with heap := h', toks := tk } := ⟨⟨h', tk, rfl⟩, fun b o hb e => hk b o (fun hm => hb (List.mem_singleton.mp hm)) e, htk⟩
    have hj' := hJ I i _ _ hIs hj (hIt i s₃ hst₃.1) u
    obtain ⟨T, rfl⟩ := hr i v hP'
    refine wpAny_letOwnedTupleGo_listiter (s := { s₃ with heap := h', toks := tk }) hst'.1 ?_
    refine wpAny_mono (turn i _ _ hP' hj') (fun _ s₄ h₄ => wpAny_mono h₄ (fun f s₅ h₅ => ?_) fun _ _ x => x.elim) fun _ _ x => x.elim
    have fin : J (i + 1) s₅ ∧ Up X { s₃ with heap := h', toks := tk } s₅ → ∃ m, m < vs.length + 1 - i ∧ ∃ i, i ≤ vs.length ∧ m = vs.length + 1 - i ∧ (s₅.heap.IsListIter I a i ∧ s₅.heap.IsList a vs.toArray) ∧ J i s₅ := by
      rintro ⟨hj₅, u₅⟩
      exact ⟨vs.length + 1 - (i + 1), by omega, i + 1, hlt, rfl, W.frame _ _ _ hst' fun b hb o e => u₅.2.1 b o (fun hx => hXI b hx hb) e, hj₅⟩
    cases f with
    | next => exact fin h₅
    | cont => exact fin h₅
    | brk => exact h₅.elim
    | ret v => exact h₅
  · have hin : i = vs.length := by omega
    subst hin
    refine wpAny_with_toks (n := s₃.toks) (Nat.le_refl _) (W.done s₃ _ _ (by simpa using hst₃) fun h' tk hk htk => ?_)
    refine wpAny_execs_nil (done _ (hJ I _ s₃ _ hIs hj (hIt _ s₃ hst₃.1) ⟨⟨h', tk, rfl⟩, fun b o hb e => hk b o (fun hm => hb (List.mem_singleton.mp hm)) e, htk⟩))
/-- a cell and a local name off a pair -/
theorem asg2cl {n k : Str} {c : Addr} {v x y : Value} {p1 p2 p3 : Pos} {q : Nat} {Q : Unit → Shared → Prop} (F : Fs s₀ env.locals m env.cells cm s) (hu : Qt prog w A (unpackItems v 2 none) (fun vs _ => vs = [x, y]) s) (hc : env.cells.lookup n = some c)
    (h : ∀ s', Fs s₀ env.locals (Upd m k y) env.cells (Upd cm n x) s' → Up (Mx env.locals env.cells) s s' → Q () s')
    (hk : env.scope.kind = .function := by rfl) (hn : env.kindOf n = some .cell := by rfl) (hn' : env.kindOf k = some .local := by rfl) :
    wpAny (model prog w) A (assign (.Tuple [.Name n p1, .Name k p2] q p3) env v) Q E s := by
  rw [arm_assign_Tuple]
  refine wpAny_bind (wpAny_standAt ?_)
  unfold unpack
  refine wpAny_bind (wpAny_holding ?_)
  show wpAny _ _ (unpackItems v 2 none) _ _ _
  refine hu.then fun vs s₁ e k₁ => ?_
  subst e
  show wpAny _ _ (do holding [y] (assign (.Name n p1) env x); assignInOrder [assign (.Name k p2) env] [y]) _ _ _
  refine wpAny_bind (wpAny_holding (wpAny_assign_Name (stC (F.k k₁) hc (fun s₂ F₂ u₂ => ?_) hk hn)))
  show wpAny _ _ (do holding [] (assign (.Name k p2) env y); assignInOrder [] []) _ _ _
  refine wpAny_bind (wpAny_holding (wpAny_assign_Name (stL F₂ (fun s₃ F₃ u₃ => ?_) hk hn')))
  exact wpAny_pure (h s₃ F₃ (((Up.of k₁).trans u₂).trans u₃))
theorem asg2lc {n k : Str} {c : Addr} {v x y : Value} {p1 p2 p3 : Pos} {q : Nat} {Q : Unit → Shared → Prop} (F : Fs s₀ env.locals m env.cells cm s) (hu : Qt prog w A (unpackItems v 2 none) (fun vs _ => vs = [x, y]) s) (hc : env.cells.lookup k = some c)
    (h : ∀ s', Fs s₀ env.locals (Upd m n x) env.cells (Upd cm k y) s' → Up (Mx env.locals env.cells) s s' → Q () s')
    (hk : env.scope.kind = .function := by rfl) (hn : env.kindOf n = some .local := by rfl) (hn' : env.kindOf k = some .cell := by rfl) :
    wpAny (model prog w) A (assign (.Tuple [.Name n p1, .Name k p2] q p3) env v) Q E s := by
  rw [arm_assign_Tuple]
  refine wpAny_bind (wpAny_standAt ?_)
  unfold unpack
  refine wpAny_bind (wpAny_holding ?_)
  show wpAny _ _ (unpackItems v 2 none) _ _ _
  refine hu.then fun vs s₁ e k₁ => ?_
  subst e
  show wpAny _ _ (do holding [y] (assign (.Name n p1) env x); assignInOrder [assign (.Name k p2) env] [y]) _ _ _
  refine wpAny_bind (wpAny_holding (wpAny_assign_Name (stL (F.k k₁) (fun s₂ F₂ u₂ => ?_) hk hn)))
  show wpAny _ _ (do holding [] (assign (.Name k p2) env y); assignInOrder [] []) _ _ _
  refine wpAny_bind (wpAny_holding (wpAny_assign_Name (stC F₂ hc (fun s₃ F₃ u₃ => ?_) hk hn')))
  exact wpAny_pure (h s₃ F₃ (((Up.of k₁).trans u₂).trans u₃))
theorem q_unpackA {v : Value} {p : Nat × Bool} {t : Tok} (hA : A.handled = none) (hl : IsT s v [.str (S [p.1]) t, .bool p.2]) : Qt prog w A (unpackItems v 2 none) (fun us _ => us = [.str (S [p.1]) t, .bool p.2]) s := q_unpackT (vs := [.str (S [p.1]) t, .bool p.2]) hA hl
end
theorem textsL_snoc {ps : List (Nat × Bool)} {i : Nat} {p : Nat × Bool} (h : ps[i]? = some p) : textsL (ps.take (i + 1)) = (textsL (ps.take i)).map (fun t => t ++ [p.1]) ++ if p.2 then textsL (ps.take i) else [] := by
  unfold textsL; rw [List.take_add_one, h, List.foldl_append]; rfl
noncomputable def TJ {s₀ sx : Shared} {L : Addr} {cs : List (Str × Addr)} {mx cmx : Str → Option Value} (_ : Fs s₀ L mx cs cmx sx) (us : List Value) (ps : List (Nat × Bool)) (i : Nat) (s : Shared) : Prop :=
  ∃ m cm a vs, Fs s₀ L m cs cm s ∧ m "texts" = some (.ref a) ∧ s.heap.IsList a vs.toArray ∧ StrsAre vs ((textsL (ps.take i)).map S) ∧ Pas s us ps
theorem texts_spec {prog : Program} {w : World} {A : Around} {s : Shared} {d : Nat} {b : Addr} {us : List Value} {ps : List (Nat × Bool)} (G : Gd (K2 w) s.heap) (hA : Ok A d)
    (hl : s.heap.IsList b us.toArray) (hp : Pas s us ps) (h11 : ps.length ≤ 11) :
    Qt prog w A (call (.ref 73) [.ref b]) (fun v s' => ∃ a vs, v = .ref a ∧ s'.heap.IsList a vs.toArray ∧ StrsAre vs ((textsL ps).map S)) s := by
  refine fn_ruleC hA (G.K 73 _ (by rfl)) rfl G.lim (codeRec_of G.K (by kernel_rfl)) rfl (by rfl) rfl (kindsX (by kernel_rfl)) ?_
  intro L s₁ F₁
  -- texts = ['']
  refine wpAny_execs_cons ?_
  refine wpAny_Assign_Name ?_
  refine List_ ?_
  refine args_cons ?_
  refine cstr [] ?_
  refine args_nil ?_
  have k₂ : Kp s₁ { s₁ with toks := s₁.toks + 1 } := Kp.tok (Nat.le_succ _)
  refine Qt.then (q_newList (by rw [sizeLine_eq]; simp)) ?_
  rintro v s₂ ⟨r, rfl, _, hr⟩ k₂'
  have F₂ := F₁.k (k₂.trans k₂')
  refine stL F₂ fun s₃ F₃ u₃ => ?_
  have hr₃ := PL.up hr F₂ u₃
  have hl₃ := IL.k hl F₃.base
  have hp₃ : Pas s₃ us ps := hp.mono fun _ _ x => x.k F₃.base
  refine wpAny_execs_cons ?_
  refine st_forL (a := b) (vs := us) hA.1 F₃.X (fun i s' => TJ F₃ us ps i s') ?_ ?_ ?_ ?_ ?_ ?_ ?_ (fun _ => rfl)
  · exact nmL F₃ (v := .ref b) (Upd.miss (by decide) (by rfl)) ⟨⟨rfl, hl₃⟩, Kp.rfl'⟩
  · intro c hc
    refine ⟨?_, F₃.has hc⟩
    rintro rfl
    obtain ⟨o, ho, _⟩ := hl
    exact F₃.off₀ ho hc
  · intro s₄ k₄
    exact ⟨_, _, r, _, F₃.k k₄, Upd.hit, IL.k hr₃.isList k₄, .cons _ _ .nil, hp₃.mono fun _ _ x => x.k k₄⟩
  · rintro I i sa sb hI ⟨m, cm, a, vs, F, e1, e2, e3, e4⟩ hIt u
    exact ⟨m, cm, a, vs, F.it hIt (none_back F₃.base hI) u, e1, IL.it e2 hIt u, e3, e4.mono fun _ _ x => x.it hIt u⟩
  · intro i v hv
    obtain ⟨p, _, t, T, e, _⟩ := hp.get hv
    exact ⟨T, e⟩
  · rintro i v sa hv ⟨m, cm, a, vs, F, e1, e2, e3, e4⟩
    obtain ⟨p, hpi, t, hT⟩ := e4.get hv
    have hst := textsL_snoc hpi
    obtain ⟨tl1, tl2⟩ := texts_lens (ps.take i)
    have hti : (ps.take i).length ≤ 11 := by rw [List.length_take]; omega
    have hcnt : (textsL (ps.take i)).length ≤ 2048 := Nat.le_trans tl1 (Nat.pow_le_pow_right (by omega) hti)
    generalize textsL (ps.take i) = ts at e3 tl1 tl2 hcnt hst
    obtain ⟨c, bb⟩ := p
    have hvl : vs.length = ts.length := by rw [e3.length, List.length_map]
    refine asg2cl F (q_unpackA hA.1 hT) (by rfl) fun sb Fb ub => ?_
    have hb := IL.up e2 F ub
    have pb : Pas sb us ps := e4.mono fun _ _ x => x.up F ub
    have b1 := Upd.miss (n := "loose") (v := .bool bb) (by decide) e1
    refine wpAny_execs_cons ?_
    refine wpAny_Assign_Name ?_
    refine wpAny_BinOp ?_
    have cS := Fb.cl (n := "sign") Upd.hit
    refine c_comp (n := vs.length) (P := fun i v => vs[i]? = some v) (Y := [a]) (fun _ => true) (ToS (fun t => t ++ [c])) hA.1 (by rw [sizeLine_eq]; omega) ?_ ?_ ?_ ?_
    · exact nmL Fb b1 ⟨src_list hb, Kp.rfl'⟩
    · intro C j v s₄ m₄ hP hns hm hk
      exact q_notest (v := v) rfl
    · intro C j v s₄ m₄ hP _ hns hm hk
      obtain ⟨x, tx, rfl, hx, _⟩ := strs_at e3 hP
      have := tl2 x hx
      refine wpAny_BinOp ?_
      refine nmN hns hm ?_
      refine nmX (cS.keeps hk.1) ?_
      refine (q_add (y := [c]) (by simp; omega)).mono ?_
      rintro v s' ⟨t', rfl⟩ _ x' t'' e
      cases e
      exact ⟨t', rfl⟩
    · rintro a4 s₄ ha4 k₄ ⟨vs', ys, hpl, hvl', hvP, hpair⟩
      have e := same_items hvl' hvP
      subst e
      rw [filter_all] at hpair
      have hys := paired_strs e3 hpair
      refine Qt.then (V := fun v s' => ∃ a zs, v = .ref a ∧ s'.heap.IsList a zs.toArray ∧ StrsAre zs ((if bb then ts else []).map S)) ?_ ?_
      · refine IfExp_ ?_
        refine isTrue_plain ?_
        refine nmL (Fb.k k₄) (v := .bool bb) Upd.hit ?_
        refine wpAny_truthy_bool ?_
        cases bb with
        | true =>
          refine nmL (Fb.k k₄) b1 ⟨⟨a, _, rfl, IL.k hb k₄, e3⟩, Kp.rfl'⟩
        | false =>
          refine List_ ?_
          refine args_nil ?_
          refine Qt.then (q_newList (by rw [sizeLine_eq]; simp)) ?_
          rintro v s₅ ⟨a5, rfl, _, h5⟩ k5
          exact ⟨⟨a5, [], rfl, h5.isList, .nil⟩, k5⟩
      · rintro v s₅ ⟨a5, zs, rfl, h5, hzs⟩ k₅
        have l1 := hys.length
        have l2 := hzs.length
        rw [List.length_map] at l1 l2
        rw [List.length_map] at l1
        have l3 : (if bb then ts else []).length ≤ ts.length := by cases bb <;> simp
        refine Qt.then (q_addL (IL.k hpl.isList k₅) h5 (by omega)) ?_
        rintro v s₆ ⟨a6, rfl, _, h6⟩ k₆
        have kk := (k₄.trans k₅).trans k₆
        refine stL (Fb.k kk) fun s₇ F₇ u₇ => ?_
        refine wpAny_execs_nil ?_
        refine ⟨⟨_, _, a6, _, F₇, Upd.hit, IL.up h6.isList (Fb.k kk) u₇, ?_, pb.mono fun _ _ x => (x.k kk).up (Fb.k kk) u₇⟩, (ub.trans (Up.of kk)).trans u₇⟩
        rw [hst, List.map_append]
        exact hys.append' hzs
  · rintro sa ⟨m, cm, a, vs, F, e1, e2, e3, e4⟩
    rw [hp.len, List.take_length] at e3
    refine wpAny_execs_cons ?_
    refine wpAny_Return_some ?_
    refine nmL F e1 ⟨⟨a, vs, rfl, e2, e3⟩, F.base⟩
end Mine
end
section
open PySem PySem.W PyProof.Rows PySem.Calls
namespace Mine
/-- no tuple -/
noncomputable def NotTup (o : Obj) : Prop := ¬ (o.cls = .type "tuple" ∧ ∃ its n, o.data = .seq its n)
theorem IsT.off {X : Addr → Prop} {s s' : Shared} {v vs} (x : IsT s v vs) (u : Up X s s') (hX : ∀ b, X b → ∀ o, s.heap.get? b = some o → NotTup o) : IsT s' v vs := by
  obtain ⟨a, e, o, ho, hc, n, hd⟩ := x
  exact ⟨a, e, o, u.2.1 a o (fun hx => hX a hx o ho ⟨hc, _, n, hd⟩) ho, hc, n, hd⟩
theorem not_ns {h : Heap} {C : Addr} {m : Str → Option Value} (x : h.Ns C m) : ∀ o, h.get? C = some o → NotTup o := by
  obtain ⟨o', es, ep, ho, hd, _⟩ := x
  rintro o e ⟨_, its, n, hd'⟩
  rw [ho] at e; cases e
  rw [hd] at hd'; cases hd'
theorem not_list {h : Heap} {D : Addr} {its : Array Value} (x : h.PlainList D its) : ∀ o, h.get? D = some o → NotTup o := by
  obtain ⟨n, ho⟩ := x
  rintro o e ⟨hc, _⟩
  rw [ho] at e; cases e
  injection hc with h'
  exact absurd h' (by decide)
theorem not_it {s : Shared} {I : Addr} (x : It s I) : ∀ o, s.heap.get? I = some o → NotTup o := by
  obtain ⟨o', fs, ho, hd⟩ := x
  rintro o e ⟨_, its, n, hd'⟩
  rw [ho] at e; cases e
  rw [hd] at hd'; cases hd'
section
variable {prog : Program} {w : World} {A : Around} {s : Shared} {env : Env}
/-- a list comprehension whose items are told at the end's heap -/
theorem c_compT {elt iter : Expr} {x : Str} {px : Pos} {scope : Scope} {cl : List (Str × Addr)} {pos : Pos} {n : Nat} {P : Nat → Value → Prop} {Y : List Addr} {Q : Value → Shared → Prop} {E : Value → Shared → Prop}
    (F : Nat → Shared → Value → Prop) (hF : ∀ i s₃ s₄ y (X : Addr → Prop), F i s₃ y → Up X s₃ s₄ → (∀ b, X b → ∀ o, s₃.heap.get? b = some o → NotTup o) → F i s₄ y) (hA : A.handled = none) (hn : n ≤ sizeLine)
    (he : Qt prog w A (eval iter env) (fun xv s₁ => Src prog w xv s₁ n P Y) s)
    (helt : ∀ C i v s₃ m₃, i < n → P i v → s₃.heap.Ns C m₃ → m₃ x = some v → Hk s s₃ → Qt prog w A (eval elt (compEnvC scope cl C env)) (fun y s₄ => F i s₄ y) s₃)
    (h : ∀ a s' (ys : List Value), s.heap.get? a = none → Kp s s' → s'.heap.PlainList a ys.toArray → ys.length = n → (∀ (i : Nat) y, ys[i]? = some y → F i s' y) → Q (.ref a) s')
    (hclos : closureFor scope env = pure cl) (hcell : ∀ y ∈ scope.names, y.2 ≠ .cell) (hkind : scope.kind = .function)
    (hnames : ∀ y ∈ scope.names, y.2 = .local → scope.names.lookup y.1 = some .local) (hx : scope.names.lookup x = some .local)
    (hs : ∀ x, foldedSetIterable iter env x = pure x) :
    wpAny (model prog w) A (eval (.ListComp elt [⟨.Name x px, iter, [], 0⟩] scope pos) env) Q E s := by
  rw [eval_ListComp]
  refine wpAny_comprehension_free (use := none) rfl hs hclos hkind hnames (he.then fun xv s₁ hsrc k₁ => hsrc _ _ _ fun I St s₂ hW hst hIt hsz k₂ hI => ?_)
  have W := hW A hA
  have kk : Kp s s₂ := k₁.trans k₂
  have hIs : s.heap.get? I = none := none_back k₁ hI
  refine wpAny_newObj_type (wpAny_newFunctionEnv hcell (by intro y hy; simp at hy) (fun h₁ hns₁ hsb₁ => ?_) hkind)
  dsimp only at hns₁ hsb₁ ⊢
  generalize hH2 : s₂.heap.push { cls := .type "list", dict := none, data := .seq ([] : List Value).toArray } = H2 at hns₁ hsb₁ ⊢
  have hC : H2.objs.size = s₂.heap.objs.size + 1 := by rw [← hH2, Heap.size_push]
  have hDC : s₂.heap.objs.size ≠ H2.objs.size := by rw [hC]; exact Nat.ne_of_lt (Nat.lt_succ_self _)
  have old : ∀ b o, s₂.heap.get? b = some o → h₁.get? b = some o := fun b o e =>
    hsb₁.extBut b o (by have := Heap.lt_size e; rw [hC]; exact Nat.ne_of_lt (Nat.lt_succ_of_lt this)) (Heap.get?_push_of_some _ (hH2 ▸ Heap.get?_push_of_some _ e))
  have hacc : h₁.PlainList s₂.heap.objs.size ([] : List Value).toArray := ⟨_, hsb₁.extBut _ _ hDC (Heap.get?_push_of_some _ (hH2 ▸ Heap.get?_push_size _ rfl))⟩
  have hst₁ : St 0 h₁ := W.frame _ _ _ hst fun b _ o e => old b o e
  have hDs : s₂.heap.get? s₂.heap.objs.size = none := none_size _
  have hCs : s₂.heap.get? H2.objs.size = none := by
    cases e : s₂.heap.get? H2.objs.size with
    | none => rfl
    | some o => have h1 := Heap.lt_size e; rw [hC] at h1; exact absurd h1 (Nat.not_lt_of_lt (Nat.lt_succ_self _))
  have hDY : s₂.heap.objs.size ∉ I :: Y := fun hm => Nat.lt_irrefl _ (hsz _ hm)
  have hCY : H2.objs.size ∉ I :: Y := fun hm => by have := hsz _ hm; rw [hC] at this; exact absurd this (Nat.not_lt_of_lt (Nat.lt_succ_self _))
  generalize s₂.heap.objs.size = D at hacc hDC hDs hDY hC
  generalize H2.objs.size = C at hns₁ hsb₁ hDC hCs hCY hC
  have hCI : C ≠ I := fun e => hCY (e ▸ List.mem_cons_self)
  have hDI : D ≠ I := fun e => hDY (e ▸ List.mem_cons_self)
  generalize hs3 : ({ s₂ with heap := h₁, toks := s₂.toks + ([] : List (Str × Value)).length } : Shared) = s₃
  have e3 : s₃.heap = h₁ := by rw [← hs3]
  have K3 : Kp s s₃ := by
    rw [← hs3]
    exact kk.trans ⟨⟨h₁, _, rfl⟩, fun b o _ e => old b o e, Nat.le_refl _⟩
  have loop : codeAny (model prog w) A (.compLoop (.ListComp elt [⟨.Name x px, iter, [], 0⟩] scope pos) 0 (.ref I) (.ref D) (compEnvC scope cl C env)) (compPost (model prog w) A E none Q (.ref D) C) s₃ := by
    refine codeAny_compLoop_list (fun k s' => ∃ i m', ∃ ys : List Value, i ≤ n ∧ k = n + 1 - i ∧ St i s'.heap ∧ s'.heap.PlainList D ys.toArray ∧ ys.length = i ∧ s'.heap.Ns C m' ∧ (∀ (j : Nat) y, ys[j]? = some y → F j s' y) ∧ Up (fun b => b = C ∨ b = D ∨ b = I) s₃ s') ?_ (n + 1)
      ⟨0, _, [], Nat.zero_le _, rfl, e3 ▸ hst₁, e3 ▸ hacc, rfl, e3 ▸ hns₁, by simp, Up.refl _ _⟩
    rintro k s₄ ⟨i, m', ys, hi, rfl, hst₄, hacc₄, hlen, hn₄, hF₄, U₄⟩
    have up : ∀ {s' : Shared}, Up (fun b => b = C ∨ b = D ∨ b = I) s₃ s' → Hk s s' := fun {s'} U => ⟨fun b o e => U.2.1 b o (by
      rintro (rfl | rfl | rfl)
      · have := kk.keep _ _ e; rw [hCs] at this; cases this
      · have := kk.keep _ _ e; rw [hDs] at this; cases this
      · rw [hIs] at e; cases e) (K3.keep b o e), Nat.le_trans K3.2.2 U.2.2⟩
    by_cases hlt : i < n
    · refine wpAny_with_toks (n := s₄.toks) (Nat.le_refl _) (W.item i s₄ _ _ hlt hst₄ fun v h' tk hP hst' hk' htk => ?_)
      have u₅ : Up (· = I) s₄ { s₄ with heap := h', toks := tk } := ⟨⟨h', tk, rfl⟩, fun b o hb e => hk' b o (fun hm => hb (List.mem_singleton.mp hm)) e, htk⟩
      have hn₅ : h'.Ns C m' := hn₄.at' fun o e => u₅.2.1 C o hCI e
      have hacc₅ : h'.PlainList D ys.toArray := hacc₄.at fun o e => u₅.2.1 D o hDI e
      have hF₅ : ∀ (j : Nat) y, ys[j]? = some y → F j { s₄ with heap := h', toks := tk } y := fun j y hy => hF j _ _ y _ (hF₄ j y hy) u₅ (by rintro b rfl; exact not_it (hIt i s₄ hst₄))
      refine wpAny_assign_Name (wpAny_storeName_local (lookup_relabel_local hx) hn₅ (fun h₆ hn₆ hs₆ => ?_) (by simp [compEnvC, relabel, hkind]))
      generalize hs6 : ({ s₄ with heap := h₆, toks := tk + 1 } : Shared) = s₆
      have u₆ : Up (· = C) { s₄ with heap := h', toks := tk } s₆ := by
        rw [← hs6]
        exact ⟨⟨h₆, _, rfl⟩, fun b o hb e => hs₆.extBut b o hb e, Nat.le_succ _⟩
      have hn₆' : s₆.heap.Ns C (fun y => if y = x then some v else m' y) := by rw [← hs6]; exact hn₆
      have hacc₆ : s₆.heap.PlainList D ys.toArray := hacc₅.at fun o e => u₆.2.1 D o hDC e
      have hst₆ : St (i + 1) s₆.heap := W.frame _ _ _ hst' fun b hb o e => u₆.2.1 b o (fun h => hCY (h ▸ hb)) e
      have hF₆ : ∀ (j : Nat) y, ys[j]? = some y → F j s₆ y := fun j y hy => hF j _ _ y _ (hF₅ j y hy) u₆ (by rintro b rfl; exact not_ns hn₅)
      have U₆ : Up (fun b => b = C ∨ b = D ∨ b = I) s₃ s₆ := (U₄.trans (u₅.mono fun b h => .inr (.inr h))).trans (u₆.mono fun b h => .inl h)
      refine Qt.then (helt C i v s₆ _ hlt hP hn₆' (by simp) (up U₆)) ?_
      intro y s₇ hy k₇
      have hacc₇ : s₇.heap.PlainList D ys.toArray := PL.k hacc₆ k₇
      refine wpAny_mono (q_append (E := fun _ _ => False) hacc₇ (by omega)) (fun r s₈ hx => ?_) fun _ _ f => f.elim
      obtain ⟨_, hacc₈, u₈⟩ := hx
      have U₈ := (U₆.trans (Up.of k₇)).trans (u₈.mono fun b h => .inr (.inl h))
      refine ⟨n + 1 - (i + 1), by omega, i + 1, _, ys ++ [y], hlt, rfl, ?_, hacc₈, by rw [List.length_append, List.length_singleton, hlen], (hn₆'.keeps k₇.keep).at' fun o e => u₈.2.1 C o hDC.symm e, ?_, U₈⟩
      · exact W.frame _ _ _ hst₆ fun b hb o e => u₈.2.1 b o (fun h => hDY (h ▸ hb)) (k₇.keep b o e)
      · intro j z hz
        have hs8 : ∀ b, b = D → ∀ o, s₇.heap.get? b = some o → NotTup o := by rintro b rfl; exact not_list hacc₇
        rcases Nat.lt_trichotomy j ys.length with h | h | h
        · rw [List.getElem?_append_left h] at hz
          exact hF j _ _ z _ (hF j _ _ z (fun _ => False) (hF₆ j z hz) (Up.of k₇) fun _ f => f.elim) u₈ hs8
        · subst h
          have hz' : y = z := by simpa using hz
          subst hz'
          rw [hlen]
          exact hF i _ _ y _ hy u₈ hs8
        · rw [List.getElem?_eq_none (by rw [List.length_append, List.length_singleton]; omega)] at hz; cases hz
    · have hin : i = n := by omega
      subst hin
      refine wpAny_with_toks (n := s₄.toks) (Nat.le_refl _) (W.done s₄ _ _ hst₄ fun h' tk hk' htk => ?_)
      have u₅ : Up (· = I) s₄ { s₄ with heap := h', toks := tk } := ⟨⟨h', tk, rfl⟩, fun b o hb e => hk' b o (fun hm => hb (List.mem_singleton.mp hm)) e, htk⟩
      have hn₅ : h'.Ns C m' := hn₄.at' fun o e => u₅.2.1 C o hCI e
      refine ⟨m', hn₅, fun h'' hs'' => ?_⟩
      have u₆ : Up (· = C) { s₄ with heap := h', toks := tk } { s₄ with heap := h'', toks := tk } := ⟨⟨h'', _, rfl⟩, fun b o hb e => hs''.extBut b o hb e, Nat.le_refl _⟩
      have U₆ : Up (fun b => b = C ∨ b = D ∨ b = I) s₃ { s₄ with heap := h'', toks := tk } := (U₄.trans (u₅.mono fun b h => .inr (.inr h))).trans (u₆.mono fun b h => .inl h)
      refine h D _ ys ?_ ?_ ?_ hlen ?_
      · exact none_back kk hDs
      · have hh := up U₆
        have e : ∃ h tk', ({ s₄ with heap := h'', toks := tk } : Shared) = { s with heap := h, toks := tk' } := by
          obtain ⟨⟨a, b, ea⟩, _, _⟩ := U₆
          obtain ⟨⟨c, d, ec⟩, _, _⟩ := K3
          exact ⟨a, b, by rw [ea, ec]⟩
        exact ⟨e, fun b o _ e => hh.1 b o e, hh.2⟩
      · exact (hacc₄.at fun o e => u₅.2.1 D o hDI e).at fun o e => u₆.2.1 D o hDC e
      · intro j y hy
        exact hF j _ _ y _ (hF j _ _ y _ (hF₄ j y hy) u₅ (by rintro b rfl; exact not_it (hIt _ s₄ hst₄))) u₆ (by rintro b rfl; exact not_ns hn₅)
  exact codeAny_compStart_list loop (W.self 0 _ _ _ (e3 ▸ hst₁) loop)
end
end Mine
end
section
open PySem PySem.W PyProof.Rows PySem.Calls
namespace Mine
/-- the five escapes -/
noncomputable def handF (h : Nat) : Addr := [33, 40, 47, 54, 61].getD h 0
theorem hand_spec {prog : Program} {w : World} {A : Around} {s : Shared} {d h : Nat} {l : List Nat} {t : Tok} (G : Gd (K2 w) s.heap) (hA : Ok A d) (h5 : h < 5) (hl : l.length ≤ 100000) :
    Qt prog w A (call (.ref (handF h)) [.str (S l) t]) (fun v _ => ∃ t', v = .str (S (sp h l)) t') s := by
  match h, h5 with
  | 0, _ => exact esc0 G hA hl
  | 1, _ => exact esc1 G hA hl
  | 2, _ => exact esc2 G hA hl
  | 3, _ => exact esc3 G hA hl
  | 4, _ => exact esc4 G hA hl
theorem hand_obj {w : World} {s : Shared} {h : Nat} (G : Gd (K2 w) s.heap) (h5 : h < 5) : ∃ o fd, s.heap.get? (handF h) = some o ∧ o.data = .func fd := by
  match h, h5 with
  | 0, _ => exact ⟨_, _, G.K 33 _ (by rfl), rfl⟩
  | 1, _ => exact ⟨_, _, G.K 40 _ (by rfl), rfl⟩
  | 2, _ => exact ⟨_, _, G.K 47 _ (by rfl), rfl⟩
  | 3, _ => exact ⟨_, _, G.K 54 _ (by rfl), rfl⟩
  | 4, _ => exact ⟨_, _, G.K 61 _ (by rfl), rfl⟩
noncomputable def handsV : List Value := [.ref 33, .ref 40, .ref 47, .ref 54, .ref 61]
theorem hands_at {h : Nat} (h5 : h < 5) : handsV[h]? = some (.ref (handF h)) := by
  match h, h5 with
  | 0, _ => rfl
  | 1, _ => rfl
  | 2, _ => rfl
  | 3, _ => rfl
  | 4, _ => rfl
theorem sp_small (h : Nat) {l : List Nat} (hl : ∀ c ∈ l, c < 1114112) : ∀ c ∈ sp h l, c < 1114112 := by
  have key : ∀ T ∈ tabs, ∀ p ∈ T, ∀ c ∈ p.2, c < 1114112 := by decide +kernel
  intro c hc
  unfold sp at hc
  obtain ⟨d, hd, hcd⟩ := List.mem_flatMap.mp hc
  unfold spell at hcd
  cases hq : (tabs.getD h []).lookup d with
  | none => rw [hq] at hcd; simp at hcd; rw [hcd]; exact hl d hd
  | some u =>
    rw [hq] at hcd
    have hm := memT hq
    rw [List.getD_eq_getElem?_getD] at hm
    cases ht : tabs[h]? with
    | none => rw [ht] at hm; simp at hm
    | some T => rw [ht] at hm; exact key T (List.mem_of_getElem? ht) _ hm c (by simpa using hcd)
theorem sp_len (h : Nat) (l : List Nat) : (sp h l).length ≤ 6 * l.length := flat_len (spell_len6 h) l
theorem al2_small : ∀ c ∈ Al2, c < 1114112 := by decide +kernel
theorem parse_in {x : List Nat} (hx : ∀ c ∈ x, c ∈ Al2) : parseL x = parseR x := by
  unfold parseL
  conv => rhs; rw [← List.map_id (parseR x)]
  exact List.map_congr_left fun p hp => strip_none fun c hc => al2_sp c (hx c (parse_sub x p hp c hc))
theorem foldV_snoc {h : Nat} {ps : List (List Nat)} {i : Nat} {p : List Nat} (hp : ps[i]? = some p) : foldV h (ps.take (i + 1)) 1 = 2 * putW 1 (sp h p) (foldV h (ps.take i) 1) := by
  unfold foldV
  rw [List.take_add_one, hp, List.foldl_append]; rfl
noncomputable def XJ {s₀ sb : Shared} {L : Addr} {cs : List (Str × Addr)} {mb cmb : Str → Option Value} (_ : Fs s₀ L mb cs cmb sb) (hv ev pv : Value) (T : Int) (s : Shared) : Prop :=
  ∃ m cm t, Fs s₀ L m cs cm s ∧ m "hand" = some hv ∧ m "escape" = some ev ∧ m "pairs" = some pv ∧ m "total" = some (.int T t) ∧ Up (Mx L cs) sb s
noncomputable def XK {s₀ sb : Shared} {L : Addr} {cs : List (Str × Addr)} {mb cmb : Str → Option Value} (_ : Fs s₀ L mb cs cmb sb) (hv ev pv : Value) (T V : Int) (s : Shared) : Prop :=
  ∃ m cm t v, Fs s₀ L m cs cm s ∧ m "hand" = some hv ∧ m "escape" = some ev ∧ m "pairs" = some pv ∧ m "total" = some (.int T t) ∧ m "sums" = some v ∧ IsPr s v (V, 1) ∧ Up (Mx L cs) sb s
theorem item_turn {prog : Program} {w : World} {A : Around} {s₀ sb s : Shared} {L fa : Addr} {cd hv pv : Value} {nm : Str} {o : Obj} {fd : FuncData} {body lb lc : List Stmt} {scope : Scope} {mb cmb : Str → Option Value} {d h : Nat}
    {tgt iter tgt2 iter2 : Expr} {p1 p2 : Pos} {x : List Nat} {T V : Int} {tx : Tok}
    (h1 : (K2 w).lookup 106 = some o) (h2 : o.data = .func fd) (h3 : fd.body = .stmts body) (h4 : fd.scope = scope) (h5 : body[5]? = some (.For tgt iter lb [] p1)) (h6 : lb[1]? = some (.For tgt2 iter2 lc [] p2))
    (G : Gd (K2 w) s₀.heap) (hA : Ok A (d + 2)) (hh5 : h < 5) (hx : ∀ c ∈ x, c ∈ Al2) (hxl : x.length ≤ 100)
    (Fb : Fs s₀ L mb (cellsFrom (L + 1) scope.names []) cmb sb)
    (J : XK Fb hv (.ref (handF h)) pv T V s) :
    wpAny (model prog w) A (assign tgt2 (envOfC nm scope L fa cd) (.str (S x) tx)) (fun _ s₂ => wpAny (model prog w) A (execs lc (envOfC nm scope L fa cd)) (fun f s₃ =>
      f = .next ∧ XK Fb hv (.ref (handF h)) pv T (2 * putW 1 (sp h x) V) s₃ ∧ Up (Mx L (cellsFrom (L + 1) scope.names [])) s s₃) (fun _ _ => False) s₂) (fun _ _ => False) s := by
  obtain rfl := Option.some.inj ((show (K2 w).lookup 106 = some _ by rfl).symm.trans h1)
  cases h2
  cases h3
  dsimp only at h4
  subst h4
  cases h5
  cases h6
  obtain ⟨m, cm, t, v, F, m1, m2, m3, m4, m5, hp, U⟩ := J
  refine wpAny_assign_Name ?_
  refine stL F fun s₁ F₁ u₁ => ?_
  have hp₁ := hp.up F u₁
  have G₁ : Gd (K2 w) s₁.heap := G.h fun b o e => F₁.base.keep b o e
  obtain ⟨fo, ffd, hfo, hfd⟩ := hand_obj G₁ hh5
  have hsl := sp_len h x
  refine wpAny_execs_cons ?_
  refine wpAny_Assign_Name ?_
  refine Tuple_ ?_
  refine args_cons ?_
  refine wpAny_BinOp ?_
  refine wpAny_Constant_int ?_
  have k₁ : Kp s₁ { s₁ with toks := s₁.toks + 1 } := Kp.tok (Nat.le_succ _)
  refine Subscript_ ?_
  refine Call_ ?_
  refine nmK (v := .ref 87) (G₁.k k₁) (by kernel_rfl) ?_
  refine gcall ((G₁.k k₁).K 87 _ (by rfl)) rfl ?_
  refine args_cons ?_
  refine nmL (F₁.k k₁) (Upd.miss (by decide) m5) ?_
  refine args_cons ?_
  refine Call_ ?_
  refine nmL (F₁.k k₁) (v := .ref (handF h)) (Upd.miss (by decide) m2) ?_
  refine gcall (k₁.keep _ _ hfo) hfd ?_
  refine args_cons ?_
  refine nmL (F₁.k k₁) (v := .str (S x) tx) Upd.hit ?_
  refine args_nil ⟨Kp.rfl', ?_⟩
  refine Qt.then (hand_spec (G₁.k k₁) hA hh5 (by omega)) ?_
  rintro r s₂ ⟨t2, rfl⟩ k₂
  refine args_nil ⟨k₂, ?_⟩
  have kk := k₁.trans k₂
  refine Qt.then (put_spec (G₁.k kk) hA (hp₁.k kk) (sp_small h fun c hc => al2_small c (hx c hc)) (by omega)) ?_
  intro r s₃ hr k₃
  refine wpAny_Constant_int ?_
  refine at_fst (hr.k (Kp.tok (Nat.le_succ _))) fun t4 => ?_
  refine PyProof.Rows.mul_int ?_ (IntMulOk.of_left (by decide +kernel))
  refine args_cons ?_
  refine wpAny_Constant_int ?_
  refine args_nil ?_
  refine Qt.then q_pair ?_
  intro v' s₄ hv' k₄
  have kf : Kp s₁ s₄ := (kk.trans k₃).trans ((Kp.tok (k := s₃.toks + 1 + 1 + 1) (by omega)).trans k₄)
  refine stL (F₁.k kf) fun s₅ F₅ u₅ => ?_
  refine wpAny_execs_nil ?_
  have ms : ∀ {y : Str} {r : Value}, (y == "item") = false → (y == "sums") = false → m y = some r → Upd (Upd m "item" (.str (S x) tx)) "sums" v' y = some r := fun h1 h2 h3 => Upd.miss h2 (Upd.miss h1 h3)
  have uu := (u₁.trans (Up.of kf)).trans u₅
  exact ⟨rfl, ⟨_, _, t, v', F₅, ms (by decide) (by decide) m1, ms (by decide) (by decide) m2, ms (by decide) (by decide) m3, ms (by decide) (by decide) m4, Upd.hit, hv'.up (F₁.k kf) u₅, U.trans uu⟩, uu⟩
theorem text_turn {prog : Program} {w : World} {A : Around} {s₀ sb s : Shared} {L fa : Addr} {cd hv pv : Value} {nm : Str} {o : Obj} {fd : FuncData} {body lb : List Stmt} {scope : Scope} {mb cmb : Str → Option Value} {d h : Nat}
    {tgt iter : Expr} {p1 : Pos} {x : List Nat} {T : Int} {tx : Tok}
    (h1 : (K2 w).lookup 106 = some o) (h2 : o.data = .func fd) (h3 : fd.body = .stmts body) (h4 : fd.scope = scope) (h5 : body[5]? = some (.For tgt iter lb [] p1))
    (G : Gd (K2 w) s₀.heap) (hA : Ok A (d + 2)) (hh5 : h < 5) (hx : ∀ c ∈ x, c ∈ Al2) (hxl : x.length ≤ 100)
    (Fb : Fs s₀ L mb (cellsFrom (L + 1) scope.names []) cmb sb)
    (J : XJ Fb hv (.ref (handF h)) pv T s) :
    wpAny (model prog w) A (assign tgt (envOfC nm scope L fa cd) (.str (S x) tx)) (fun _ s₂ => wpAny (model prog w) A (execs lb (envOfC nm scope L fa cd)) (fun f s₃ =>
      f = .next ∧ XJ Fb hv (.ref (handF h)) pv (T + valueL h x) s₃ ∧ Up (Mx L (cellsFrom (L + 1) scope.names [])) s s₃) (fun _ _ => False) s₂) (fun _ _ => False) s := by
  have turn := @item_turn prog w A s₀ sb
  have h1' := h1
  obtain rfl := Option.some.inj ((show (K2 w).lookup 106 = some _ by rfl).symm.trans h1)
  have h2' := h2
  cases h2
  have h3' := h3
  cases h3
  dsimp only at h4
  have h4' := h4
  subst h4
  have h5' := h5
  cases h5
  obtain ⟨m, cm, t, F, m1, m2, m3, m4, U⟩ := J
  refine wpAny_assign_Name ?_
  refine stL F fun s₁ F₁ u₁ => ?_
  -- sums = (1, 1)
  refine wpAny_execs_cons ?_
  refine wpAny_Assign_Name ?_
  refine Qt.then e_ints ?_
  intro v0 s₂ hv0 k₂
  refine stL (F₁.k k₂) fun s₃ F₃ u₃ => ?_
  have hv₃ := hv0.up (F₁.k k₂) u₃
  have U₃ := ((U.trans u₁).trans (Up.of k₂)).trans u₃
  have V₃ := (u₁.trans (Up.of k₂)).trans u₃
  have G₃ : Gd (K2 w) s₃.heap := G.h fun b o e => F₃.base.keep b o e
  have ms : ∀ {y : Str} {r : Value}, (y == "text") = false → (y == "sums") = false → m y = some r → Upd (Upd m "text" (.str (S x) tx)) "sums" v0 y = some r := fun h1 h2 h3 => Upd.miss h2 (Upd.miss h1 h3)
  -- for item in parse_http_list(text)
  refine wpAny_execs_cons ?_
  refine @st_forK _ _ _ _ _ _ _ _ _ _ _ hA.1 ?_ (fun _ => rfl) (fun _ _ => rfl)
  refine Call_ ?_
  refine nmK (v := .ref 19) G₃ (by kernel_rfl) ?_
  refine gcall (G₃.K 19 _ (by rfl)) rfl ?_
  refine args_cons ?_
  refine nmL F₃ (v := .str (S x) tx) (Upd.miss (by decide) Upd.hit) ?_
  refine args_nil ⟨Kp.rfl', ?_⟩
  refine Qt.then (parse_spec G₃ hA (by omega)) ?_
  rintro r s₄ ⟨a, vs, rfl, ha0, hpl, hvs⟩ k₄
  have F₄ := F₃.k k₄
  have U₄ := U₃.trans (Up.of k₄)
  have V₄ := V₃.trans (Up.of k₄)
  have hvl : vs.length = (parseL x).length := by rw [hvs.length, List.length_map]
  refine ⟨vs.length, fun i v => vs[i]? = some v, [a], Fb.X, fun i s' => XK Fb hv (.ref (handF h)) pv T (foldV h ((parseL x).take i) 1) s' ∧ Up Fb.X s s', src_list hpl.isList, ?_, ?_, ?_, ?_, ?_⟩
  · intro b hb
    refine ⟨?_, F₄.has hb⟩
    intro hm
    rw [List.mem_singleton.mp hm] at hb
    obtain ⟨n, ho⟩ := hpl
    exact F₄.off ho (by intro _ _ q; cases q) (by intro _ q; cases q) hb
  · intro s₅ k₅
    exact ⟨⟨_, _, t, v0, F₄.k k₅, ms (by decide) (by decide) m1, ms (by decide) (by decide) m2, ms (by decide) (by decide) m3, ms (by decide) (by decide) m4, Upd.hit, (hv₃.k k₄).k k₅, U₄.trans (Up.of k₅)⟩, V₄.trans (Up.of k₅)⟩
  · rintro I i sa sc hI ⟨⟨m', cm', t', v', F', n1, n2, n3, n4, n5, hp', U'⟩, V'⟩ hIt u
    have hsb := F₄.none_up U₄ hI
    have hss := F₄.none_up V₄ hI
    exact ⟨⟨m', cm', t', v', F'.it hIt (none_back Fb.base hsb) u, n1, n2, n3, n4, n5, hp'.it hIt u, U'.itb hsb u⟩, V'.itb hss u⟩
  · rintro i v sa hin hvi ⟨Ja, Va⟩
    obtain ⟨y, ty, rfl, hy, hyi⟩ := strs_at hvs hvi
    rw [parse_in hx] at hy
    have hyx := parseR_items x y hy
    refine wpAny_mono (turn (cd := cd) (nm := nm) (fa := fa) h1' h2' h3' h4' h5' rfl G hA hh5 (fun c hc => hx c (parse_sub x y hy c hc)) (by omega) Fb Ja) (fun _ s₅ h₅ => wpAny_mono h₅ (fun f s₆ h₆ => ?_) fun _ _ x => x) fun _ _ x => x
    obtain ⟨rfl, Jb, u⟩ := h₆
    rw [← foldV_snoc hyi] at Jb
    exact ⟨⟨Jb, Va.trans u⟩, u⟩
  · rintro sa ⟨⟨m', cm', t', v', F', n1, n2, n3, n4, n5, hp', U'⟩, Va⟩
    rw [hvl, List.take_length] at hp'
    -- total += sums[0]
    refine wpAny_execs_cons ?_
    refine wpAny_AugAssign_Name (ldLC F'.inC rfl rfl n4 ?_)
    refine Subscript_ ?_
    refine nmL F' n5 ?_
    refine wpAny_Constant_int ?_
    refine at_fst (hp'.k (Kp.tok (Nat.le_succ _))) fun t5 => ?_
    refine PyProof.Rows.iadd_int ?_
    have kt : Kp sa { sa with toks := sa.toks + 1 + 1 } := Kp.tok (by omega)
    refine stL (F'.k kt) fun sd Fd ud => ?_
    refine wpAny_execs_nil ?_
    have mt : ∀ {y : Str} {r w : Value}, (y == "total") = false → m' y = some r → Upd m' "total" w y = some r := fun h1 h3 => Upd.miss h1 h3
    have uu := (Up.of kt).trans ud
    exact ⟨rfl, ⟨_, _, _, Fd, mt (by decide) n1, mt (by decide) n2, mt (by decide) n3, Upd.hit, U'.trans uu⟩, Va.trans uu⟩
end Mine
end
section
open PySem PySem.W PyProof.Rows PySem.Calls
namespace Mine
theorem EaP.of {s : Shared} : ∀ {vs : List Value} {ps : List (Int × Int)}, vs.length = ps.length → (∀ (i : Nat) v, vs[i]? = some v → ∃ p, ps[i]? = some p ∧ IsPr s v p) → EaP s vs ps
  | [], [], _, _ => .nil
  | v :: vs, p :: ps, hl, h => by
    obtain ⟨p', e, hp⟩ := h 0 v rfl
    cases e
    exact .cons hp (EaP.of (by simpa using hl) fun i u hu => by have := h (i + 1) u (by simpa using hu); simpa using this)
theorem stepP_len (h : Nat) {P : List (Int × Int)} (p : Nat × Bool) (hP : P.length = 4) : (stepP h P p).length = 4 := by
  have hm : ∀ f o i b c u, (movedL f o i b c u).length = 4 := by
    intro f o i b c u
    unfold movedL
    split
    · rfl
    · split
      · rfl
      · split <;> rfl
  unfold stepP
  dsimp only
  split
  · rw [List.length_zipWith, hm, hP]; rfl
  · exact hm _ _ _ _ _ _
theorem placesL_len (h : Nat) : ∀ ps, (placesL h ps).length = 4 := by
  refine snoc_rec rfl fun ps p ih => ?_
  have e1 : placesL h (ps ++ [p]) = stepP h (placesL h ps) p := by unfold placesL; rw [List.foldl_append]; rfl
  rw [e1]; exact stepP_len h p ih
theorem placesL_snoc {h : Nat} {ps : List (Nat × Bool)} {i : Nat} {p : Nat × Bool} (hp : ps[i]? = some p) : placesL h (ps.take (i + 1)) = stepP h (placesL h (ps.take i)) p := by
  unfold placesL; rw [List.take_add_one, hp, List.foldl_append]; rfl
noncomputable def YJ {s₀ sb : Shared} {L : Addr} {cs : List (Str × Addr)} {mb cmb : Str → Option Value} (_ : Fs s₀ L mb cs cmb sb) (hv : Value) (T : Int) (P : List (Int × Int)) (s : Shared) : Prop :=
  ∃ m cm t pl pvs, Fs s₀ L m cs cm s ∧ m "hand" = some hv ∧ m "total" = some (.int T t) ∧ cm "places" = some (.ref pl) ∧ s.heap.IsList pl pvs.toArray ∧ EaP s pvs P ∧ Up (Mx L cs) sb s
theorem pair_turn {prog : Program} {w : World} {A : Around} {s₀ sb s : Shared} {L fa : Addr} {cd v : Value} {nm : Str} {o : Obj} {fd : FuncData} {body lb : List Stmt} {scope : Scope} {mb cmb : Str → Option Value} {d h : Nat}
    {tgt iter : Expr} {p1 : Pos} {p : Nat × Bool} {T : Int} {th tc : Tok} {P : List (Int × Int)}
    (h1 : (K2 w).lookup 106 = some o) (h2 : o.data = .func fd) (h3 : fd.body = .stmts body) (h4 : fd.scope = scope) (h5 : body[7]? = some (.For tgt iter lb [] p1))
    (G : Gd (K2 w) s₀.heap) (hA : Ok A (d + 2)) (hh5 : h < 5) (hc : p.1 ∈ Al2) (hP4 : P.length = 4)
    (Fb : Fs s₀ L mb (cellsFrom (L + 1) scope.names []) cmb sb) (hT : IsT s v [.str (S [p.1]) tc, .bool p.2])
    (J : YJ Fb (.int (h : Int) th) T P s) :
    wpAny (model prog w) A (assign tgt (envOfC nm scope L fa cd) v) (fun _ s₂ => wpAny (model prog w) A (execs lb (envOfC nm scope L fa cd)) (fun f s₃ =>
      f = .next ∧ YJ Fb (.int (h : Int) th) T (stepP h P p) s₃ ∧ Up (Mx L (cellsFrom (L + 1) scope.names [])) s s₃) (fun _ _ => False) s₂) (fun _ _ => False) s := by
  obtain rfl := Option.some.inj ((show (K2 w).lookup 106 = some _ by rfl).symm.trans h1)
  cases h2
  cases h3
  dsimp only at h4
  subst h4
  cases h5
  obtain ⟨m, cm, t, pl, pvs, F, m1, m2, c1, hpl, hep, U⟩ := J
  obtain ⟨c, b⟩ := p
  refine asg2lc F (q_unpackA hA.1 hT) (by rfl) fun s₁ F₁ u₁ => ?_
  have hpl₁ := IL.up hpl F u₁
  have hep₁ := hep.up F u₁
  have G₁ : Gd (K2 w) s₁.heap := G.h fun b o e => F₁.base.keep b o e
  have hlen : (spell (tabs.getD h []) c).length ≤ 6 := spell_len6 h c
  have hsm : ∀ x ∈ spell (tabs.getD h []) c, x < 1114112 := by
    have := sp_small h (l := [c]) (by simpa using al2_small c hc)
    unfold sp at this
    simpa using this
  have e4 : P = [P.getD 0 (0, 0), P.getD 1 (0, 0), P.getD 2 (0, 0), P.getD 3 (0, 0)] := by
    match P, hP4 with
    | [a, b, c, d], _ => rfl
  have hep₁' : EaP s₁ pvs [P.getD 0 (0, 0), P.getD 1 (0, 0), P.getD 2 (0, 0), P.getD 3 (0, 0)] := e4 ▸ hep₁
  -- moved
  refine wpAny_execs_cons ?_
  refine wpAny_Assign_Name ?_
  refine Call_ ?_
  refine nmK (v := .ref 101) G₁ (by kernel_rfl) ?_
  refine gcall (G₁.K 101 _ (by rfl)) rfl ?_
  refine args_cons ?_
  refine nmC F₁ (by rfl) (v := .ref pl) (Upd.miss (by decide) c1) ?_
  refine args_cons ?_
  refine nmL F₁ (v := .str (S [c]) tc) Upd.hit ?_
  refine args_cons ?_
  refine Call_ ?_
  refine nmK (v := .ref 80) G₁ (by kernel_rfl) ?_
  refine gcall (G₁.K 80 _ (by rfl)) rfl ?_
  refine args_cons ?_
  refine nmL F₁ (v := .int (h : Int) th) (Upd.miss (by decide) m1) ?_
  refine args_cons ?_
  refine nmL F₁ (v := .str (S [c]) tc) Upd.hit ?_
  refine args_nil ⟨Kp.rfl', ?_⟩
  refine Qt.then (sign_spec2 G₁ hA hh5 hc) ?_
  rintro r s₂ ⟨t2, rfl⟩ k₂
  refine args_nil ⟨k₂, ?_⟩
  refine Qt.then (moved_spec (d := d + 1) (G₁.k k₂) hA (IL.k hpl₁ k₂) (hep₁'.k k₂) hsm (by omega)) ?_
  rintro r s₃ ⟨mv, mvs, rfl, hmv, hme⟩ k₃
  have kk := k₂.trans k₃
  refine stC (F₁.k kk) (by rfl) fun s₄ F₄ u₄ => ?_
  have hpl₄ := IL.up (IL.k hpl₁ kk) (F₁.k kk) u₄
  have hep₄ := (hep₁.k kk).up (F₁.k kk) u₄
  have hmv₄ := IL.up hmv.isList (F₁.k kk) u₄
  have hme₄ := hme.up (F₁.k kk) u₄
  have G₄ : Gd (K2 w) s₄.heap := G.h fun b o e => F₄.base.keep b o e
  have V₄ := (u₁.trans (Up.of kk)).trans u₄
  have U₄ := U.trans V₄
  have cM := F₄.cl (n := "moved") (v := .ref mv) Upd.hit
  have cL := F₄.cl (n := "loose") (v := .bool b) (Upd.miss (by decide) Upd.hit)
  have cP := F₄.cl (n := "places") (v := .ref pl) (Upd.miss (by decide) (Upd.miss (by decide) c1))
  have hst : ∀ (i : Nat) (q z : Int × Int), (movedL (P.getD 0 (0, 0)) (P.getD 1 (0, 0)) (P.getD 2 (0, 0)) (P.getD 3 (0, 0)) c (spell (tabs.getD h []) c))[i]? = some q → P[i]? = some z → (stepP h P (c, b))[i]? = some (if b then addP q z else q) := by
    intro i q z hq hz
    unfold stepP
    dsimp only
    cases b with
    | true => simp only [if_true]; rw [List.getElem?_zipWith, hq, hz]
    | false => simpa using hq
  -- places
  refine wpAny_execs_cons ?_
  refine wpAny_Assign_Name ?_
  refine c_compT (n := 4) (P := fun i v => i < 4 ∧ ∃ t, v = .int i t) (Y := []) (fun i s' y => ∃ q, (stepP h P (c, b))[i]? = some q ∧ IsPr s' y q)
    (fun i s₃ s₄ y X ⟨q, e, t, u, hy⟩ up hX => ⟨q, e, t, u, hy.off up hX⟩) hA.1 (by rw [sizeLine_eq]; omega) ?_ ?_ ?_ (by rfl) (by decide +kernel) (by rfl) (by decide +kernel) (by rfl) (fun _ => rfl)
  · refine Call_ ?_
    refine nmKB (v := .type "range") G₄ (by kernel_rfl) boot_range ?_
    refine PyProof.Rows.callWith_type1 ?_
    refine args_cons ?_
    refine wpAny_Constant_int ?_
    refine args_nil ?_
    refine call_range_1 ?_
    exact ⟨src_rangeB (n := 4) (IsRange.new _ _ _ _ _ _ _) (by omega), (Kp.tok (k := s₄.toks + 1) (by omega)).trans (Kp.heap (by show s₄.toks + 1 ≤ s₄.toks + 1 + 1 + 1; omega) fun b o e => Heap.get?_push_of_some _ e)⟩
  · rintro C i v' s₅ m₅ hi4 ⟨_, tv, rfl⟩ hns hm hk
    have l1 := hme₄.len
    have l2 := hep₄.len
    have l3 : (movedL (P.getD 0 (0, 0)) (P.getD 1 (0, 0)) (P.getD 2 (0, 0)) (P.getD 3 (0, 0)) c (spell (tabs.getD h []) c)).length = 4 := by
      have := stepP_len h (P := P) (c, false) hP4
      simpa [stepP] using this
    obtain ⟨mi, hmi⟩ : ∃ v, mvs[i]? = some v := ⟨mvs[i]'(by omega), List.getElem?_eq_getElem (by omega)⟩
    obtain ⟨pi, hpi⟩ : ∃ v, pvs[i]? = some v := ⟨pvs[i]'(by omega), List.getElem?_eq_getElem (by omega)⟩
    obtain ⟨q, hq, hqi⟩ := hme₄.get hmi
    obtain ⟨z, hz, hzi⟩ := hep₄.get hpi
    have hres := hst i q z hq hz
    have G₅ : Gd (K2 w) s₅.heap := G₄.h hk.1
    refine IfExp_ ?_
    refine isTrue_plain ?_
    refine nmX (cL.keeps hk.1) ?_
    refine wpAny_truthy_bool ?_
    cases b with
    | true =>
      refine Call_ ?_
      refine nmK (v := .ref 94) G₅ (by kernel_rfl) ?_
      refine gcall (G₅.K 94 _ (by rfl)) rfl ?_
      refine args_cons ?_
      refine Subscript_ ?_
      refine nmX (cM.keeps hk.1) ?_
      refine nmN hns hm ?_
      refine at_idx (hmv₄.at fun o e => hk.1 _ _ e) hmi (by omega) ?_
      refine args_cons ?_
      refine Subscript_ ?_
      refine nmX (cP.keeps hk.1) ?_
      refine nmN hns hm ?_
      refine at_idx (hpl₄.at fun o e => hk.1 _ _ e) hpi (by omega) ?_
      refine args_nil ⟨Kp.rfl', ?_⟩
      refine Qt.then (added_spec G₅ hA (hqi.hk hk) (hzi.hk hk)) ?_
      intro y s₆ hy k₆
      exact ⟨⟨_, hres, hy⟩, k₆⟩
    | false =>
      refine Subscript_ ?_
      refine nmX (cM.keeps hk.1) ?_
      refine nmN hns hm ?_
      refine at_idx (hmv₄.at fun o e => hk.1 _ _ e) hmi (by omega) ?_
      exact ⟨⟨_, hres, hqi.hk hk⟩, Kp.rfl'⟩
  · intro a s₅ ys ha k₅ hya hyl hyF
    refine stC (F₄.k k₅) (by rfl) fun s₆ F₆ u₆ => ?_
    refine wpAny_execs_nil ?_
    have uu := (V₄.trans (Up.of k₅)).trans u₆
    have hE : EaP s₅ ys (stepP h P (c, b)) := EaP.of (by rw [hyl, stepP_len h (c, b) hP4]) hyF
    have ms : ∀ {y : Str} {r : Value}, (y == "sign") = false → m y = some r → Upd m "sign" (.str (S [c]) tc) y = some r := fun h1 h3 => Upd.miss h1 h3
    exact ⟨rfl, ⟨_, _, t, a, ys, F₆, ms (by decide) m1, ms (by decide) m2, Upd.hit, IL.up hya.isList (F₄.k k₅) u₆, hE.up (F₄.k k₅) u₆, U.trans uu⟩, uu⟩
end Mine
end
section
open PySem PySem.W PyProof.Rows PySem.Calls
namespace Mine
/-- the first number of a pair that stood there -/
noncomputable def ToF (s : Shared) (v y : Value) : Prop := ∀ p, IsPr s v p → ∃ t, y = .int p.1 t
theorem paired_firsts {s : Shared} {vs ys : List Value} {ps : List (Int × Int)} (h : EaP s vs ps) (hp : Paired (ToF s) vs ys) : IntsAre ys (ps.map (·.1)) := by
  induction hp generalizing ps with
  | nil => cases h; exact .nil
  | cons hab _ ih =>
    cases h with
    | cons hv ht =>
      obtain ⟨t, rfl⟩ := hab _ hv
      exact .cons _ _ (ih ht)
theorem fmod5 (n : Int) : ∃ h : Nat, h < 5 ∧ n.fmod 5 = (h : Int) := by
  have a0 := Int.fmod_nonneg_of_pos n (b := 5) (by omega)
  have a1 := Int.fmod_lt_of_pos n (b := 5) (by omega)
  exact ⟨(n.fmod 5).toNat, by omega, by omega⟩
theorem sum_snoc {h : Nat} {ts : List (List Nat)} {i : Nat} {x : List Nat} (hx : ts[i]? = some x) : ((ts.take (i + 1)).map (valueL h)).sum = ((ts.take i).map (valueL h)).sum + valueL h x := by
  rw [List.take_add_one, hx, List.map_append, List.sum_append]; simp
theorem law_body2 {prog : Program} {w : World} {A : Around} {s₀ s : Shared} {L fa a : Addr} {cd : Value} {nm : Str} {o : Obj} {fd : FuncData} {body : List Stmt} {scope : Scope} {m cm : Str → Option Value} {vs : List Value} {ns : List Int} {d : Nat}
    (h1 : (K2 w).lookup 106 = some o) (h2 : o.data = .func fd) (h3 : fd.body = .stmts body) (h4 : fd.scope = scope)
    (G : Gd (K2 w) s₀.heap) (hA : Ok A (d + 2)) (hl : s₀.heap.IsList a vs.toArray) (hi : IntsAre vs ns) (h63 : ns.length ≤ 63)
    (F : Fs s₀ L m (cellsFrom (L + 1) scope.names []) cm s) (hm : m "script" = some (.ref a)) :
    wpAny (model prog w) A (execs body (envOfC nm scope L fa cd)) (fun f s' => f = .ret (.bool true) ∧ Kp s₀ s') (fun _ _ => False) s := by
  have text_turn := @text_turn prog w A s₀
  have pair_turn := @pair_turn prog w A s₀
  have h1' := h1
  obtain rfl := Option.some.inj ((show (K2 w).lookup 106 = some _ by rfl).symm.trans h1)
  have h2' := h2
  cases h2
  have h3' := h3
  cases h3
  dsimp only at h4
  have h4' := h4
  subst h4
  have hvl : vs.length = ns.length := by rw [hi.length]
  -- numbers = script[:5]
  refine wpAny_execs_cons ?_
  refine wpAny_Assign_Name ?_
  refine Qt.then (V := fun v s' => ∃ b, v = .ref b ∧ s'.heap.IsList b (vs.take 5).toArray) ?_ ?_
  · refine Subscript_ ?_
    refine nmL F hm ?_
    refine wpAny_Slice ?_
    refine evalPart_none_step ?_
    refine evalPart_some_step ?_
    refine wpAny_Constant_int ?_
    refine evalPart_none_step ?_
    have hls := hl.at fun o e => F.base.keep _ _ e
    refine slice_listK (s := { s with toks := s.toks + 1 }) (hls.at fun o e => e) .none (.int _ _) ?_ (hsz := by rw [List.size_toArray, sizeLine_eq]; omega)
    have e2 : slicePick vs.toArray none (some 5) none = (vs.take 5).toArray := by
      have := slicePick_upto' vs.toArray 5
      simpa using this
    have kn : Kp s { s with toks := s.toks + 1 } := Kp.tok (Nat.le_succ _)
    refine ⟨⟨_, rfl, ?_⟩, kn.trans ((Kp.push _).trans (Kp.push _))⟩
    rw [← e2]; exact isList_pushed2 _ _ _
  rintro v s₁ ⟨b, rfl, hb⟩ k₁
  refine stL (F.k k₁) fun s₂ F₂ u₂ => ?_
  have hb₂ := IL.up hb (F.k k₁) u₂
  have hib : IntsAre (vs.take 5) (ns.take 5) := hi.take 5
  have h10 : (ns.take 5).length ≤ 5 := by rw [List.length_take]; omega
  generalize vs.take 5 = us at hb₂ hib
  generalize ns.take 5 = ms at hib h10
  clear hb
  -- hand = sum(numbers) % 5
  refine wpAny_execs_cons ?_
  refine wpAny_Assign_Name ?_
  refine wpAny_BinOp ?_
  refine Call_ ?_
  have G₂ : Gd (K2 w) s₂.heap := G.h fun b o e => F₂.base.keep b o e
  refine nmKB (v := .builtin "sum") G₂ (by kernel_rfl) boot_sum ?_
  refine PyProof.Rows.callWith_builtin1 ?_
  refine args_cons ?_
  refine nmL F₂ (v := .ref b) Upd.hit ?_
  refine args_nil ?_
  refine Qt.then (q_sum hA.1 hb₂ hib) ?_
  rintro v s₃ ⟨tt, rfl⟩ k₃
  refine wpAny_Constant_int ?_
  refine mod_int' (by decide) ?_
  obtain ⟨h, hh5, hhe⟩ := fmod5 ms.sum
  rw [hhe]
  have k₃' := k₃.trans (Kp.tok (s := s₃) (k := s₃.toks + 1 + 1) (by omega))
  refine stL (F₂.k k₃') fun s₄ F₄ u₄ => ?_
  have hb₄ := IL.up (IL.k hb₂ k₃') (F₂.k k₃') u₄
  have G₄ : Gd (K2 w) s₄.heap := G.h fun b o e => F₄.base.keep b o e
  -- escape = [..][hand]
  refine wpAny_execs_cons ?_
  refine wpAny_Assign_Name ?_
  refine Subscript_ ?_
  refine List_ ?_
  refine args_cons ?_
  refine nmK (v := .ref 33) G₄ (by kernel_rfl) ?_
  refine args_cons ?_
  refine nmK (v := .ref 40) G₄ (by kernel_rfl) ?_
  refine args_cons ?_
  refine nmK (v := .ref 47) G₄ (by kernel_rfl) ?_
  refine args_cons ?_
  refine nmK (v := .ref 54) G₄ (by kernel_rfl) ?_
  refine args_cons ?_
  refine nmK (v := .ref 61) G₄ (by kernel_rfl) ?_
  refine args_nil ?_
  refine Qt.then (q_newList (by rw [sizeLine_eq]; simp)) ?_
  rintro v s₅ ⟨ha, rfl, _, hh⟩ k₅
  refine nmL (F₄.k k₅) (v := .int (h : Int) _) Upd.hit ?_
  refine at_idx hh.isList (hands_at hh5) (by omega) ?_
  refine stL (F₄.k k₅) fun s₆ F₆ u₆ => ?_
  have hb₆ := IL.up (IL.k hb₄ k₅) (F₄.k k₅) u₆
  have G₆ : Gd (K2 w) s₆.heap := G.h fun b o e => F₆.base.keep b o e
  -- pairs = _law_strip(numbers)
  refine wpAny_execs_cons ?_
  refine wpAny_Assign_Name ?_
  refine Call_ ?_
  refine nmK (v := .ref 68) G₆ (by kernel_rfl) ?_
  refine gcall (G₆.K 68 _ (by rfl)) rfl ?_
  refine args_cons ?_
  refine nmL F₆ (v := .ref b) (Upd.miss (by decide) (Upd.miss (by decide) Upd.hit)) ?_
  refine args_nil ⟨Kp.rfl', ?_⟩
  refine Qt.then (strip_spec G₆ hA hb₆ hib h10) ?_
  rintro v s₇ ⟨pa, pus, ps, rfl, hpa, hpp, hpA, hp11⟩ k₇
  refine stL (F₆.k k₇) fun s₈ F₈ u₈ => ?_
  have hpa₈ := IL.up hpa (F₆.k k₇) u₈
  have hpp₈ : Pas s₈ pus ps := hpp.mono fun _ _ x => x.up (F₆.k k₇) u₈
  -- total = 0
  refine wpAny_execs_cons ?_
  refine wpAny_Assign_Name ?_
  refine wpAny_Constant_int ?_
  have k₈ : Kp s₈ { s₈ with toks := s₈.toks + 1 } := Kp.tok (Nat.le_succ _)
  refine stL (F₈.k k₈) fun s₉ F₉ u₉ => ?_
  have hpa₉ := IL.up (IL.k hpa₈ k₈) (F₈.k k₈) u₉
  have hpp₉ : Pas s₉ pus ps := hpp₈.mono fun _ _ x => (x.k k₈).up (F₈.k k₈) u₉
  have G₉ : Gd (K2 w) s₉.heap := G.h fun b o e => F₉.base.keep b o e
  obtain ⟨mc, th, tz, Fc, mh, me, mp, mt⟩ : ∃ mc th tz, Fs s₀ L mc (cellsFrom (L + 1) _ []) cm s₉ ∧ mc "hand" = some (.int (h : Int) th) ∧ mc "escape" = some (.ref (handF h)) ∧ mc "pairs" = some (.ref pa) ∧ mc "total" = some (.int 0 tz) :=
    ⟨_, _, _, F₉, Upd.miss (by decide) (Upd.miss (by decide) (Upd.miss (by decide) Upd.hit)), Upd.miss (by decide) (Upd.miss (by decide) Upd.hit), Upd.miss (by decide) Upd.hit, Upd.hit⟩
  clear F₉ u₉ k₈ F₈ u₈ hpp hpa k₇ F₆ u₆ k₅ hh F₄ u₄ G₄ k₃' k₃ F₂ u₂ G₂ k₁ hb₂ hb₄ hb₆ G₆ hpa₈ hpp₈
  -- for text in _law_texts(pairs)
  refine wpAny_execs_cons ?_
  refine @st_forK _ _ _ _ _ _ _ _ _ _ _ hA.1 ?_ (fun _ => rfl) (fun _ _ => rfl)
  refine Call_ ?_
  refine nmK (v := .ref 73) G₉ (by kernel_rfl) ?_
  refine gcall (G₉.K 73 _ (by rfl)) rfl ?_
  refine args_cons ?_
  refine nmL Fc mp ?_
  refine args_nil ⟨Kp.rfl', ?_⟩
  refine Qt.then (texts_spec G₉ hA hpa₉ hpp₉ hp11) ?_
  rintro v sb ⟨ta, tvs, rfl, hta, hts⟩ kb
  have Fb := Fc.k kb
  have hpab := IL.k hpa₉ kb
  have hppb : Pas sb pus ps := hpp₉.mono fun _ _ x => x.k kb
  have htl : tvs.length = (textsL ps).length := by rw [hts.length, List.length_map]
  obtain ⟨tl1, tl2⟩ := texts_lens ps
  refine ⟨tvs.length, fun i v => tvs[i]? = some v, [ta], Fb.X, fun i s' => XJ Fb (.int (h : Int) th) (.ref (handF h)) (.ref pa) (((textsL ps).take i).map (valueL h)).sum s', src_list hta, ?_, ?_, ?_, ?_, ?_⟩
  · intro b hb
    refine ⟨?_, Fb.has hb⟩
    intro hm
    rw [List.mem_singleton.mp hm] at hb
    obtain ⟨o, ho, hc, n, hd⟩ := hta
    exact Fb.off ho (by rw [hd]; intro _ _ q; cases q) (by rw [hd]; intro _ q; cases q) hb
  · intro s' k
    exact ⟨_, _, _, Fb.k k, mh, me, mp, mt, Up.of k⟩
  · rintro I i sa sb' hI ⟨m', cm', t', F', n1, n2, n3, n4, U'⟩ hIt u
    exact ⟨m', cm', t', F'.it hIt (none_back Fb.base hI) u, n1, n2, n3, n4, U'.itb hI u⟩
  · rintro i v sa hin hv J
    obtain ⟨x, tx, rfl, hx, hxi⟩ := strs_at hts hv
    have hxl := tl2 x hx
    refine wpAny_mono (text_turn (cd := cd) (nm := nm) (fa := fa) h1' h2' h3' h4' rfl G hA hh5 (texts_sub ps hpA x hx) (by omega) Fb J) (fun _ s₁ q₁ => wpAny_mono q₁ (fun f s₂ q₂ => ?_) fun _ _ x => x) fun _ _ x => x
    obtain ⟨rfl, q, u⟩ := q₂
    rw [← sum_snoc hxi] at q
    exact ⟨q, u⟩
  rintro sc ⟨md, cmd, td, Fd, dh, de, dp, dt, Ud⟩
  rw [htl, List.take_length] at dt
  -- places
  refine wpAny_execs_cons ?_
  refine wpAny_Assign_Name ?_
  refine @Qt.then _ _ _ _ _ _ _ _ _ (@e_four _ _ _ _ _ _ _ _ _ _ _ _ _ _ (fun _ _ => e_ints) (fun _ _ => e_ints) (fun _ _ => e_ints) (fun _ _ => e_ints) (by rfl)) ?_
  rintro v sd ⟨pl, pvs, rfl, hpl, hep⟩ kd
  refine stC (Fd.k kd) (by rfl) fun se Fe ue => ?_
  have hple := IL.up hpl.isList (Fd.k kd) ue
  have hepe := hep.up (Fd.k kd) ue
  have Ue := (Ud.trans (Up.of kd)).trans ue
  have hpae := IL.up hpab Fb Ue
  have hppe : Pas se pus ps := hppb.mono fun _ _ x => x.up Fb Ue
  -- for sign, loose in pairs
  refine wpAny_execs_cons ?_
  refine st_forL (a := pa) (vs := pus) hA.1 Fe.X (fun i s' => YJ Fe (.int (h : Int) th) ((textsL ps).map (valueL h)).sum (placesL h (ps.take i)) s') ?_ ?_ ?_ ?_ ?_ ?_ ?_ (fun _ => rfl)
  · exact nmL Fe dp ⟨⟨rfl, hpae⟩, Kp.rfl'⟩
  · intro c hc
    refine ⟨?_, Fe.has hc⟩
    rintro rfl
    obtain ⟨o, ho, hcl, n, hd⟩ := hpae
    exact Fe.off ho (by rw [hd]; intro _ _ q; cases q) (by rw [hd]; intro _ q; cases q) hc
  · intro s' k
    exact ⟨_, _, _, pl, pvs, Fe.k k, dh, dt, Upd.hit, IL.k hple k, hepe.k k, Up.of k⟩
  · rintro I i sa sb' hI ⟨m', cm', t', pl', pvs', F', n1, n2, n3, n4, n5, U'⟩ hIt u
    exact ⟨m', cm', t', pl', pvs', F'.it hIt (none_back Fe.base hI) u, n1, n2, n3, IL.it n4 hIt u, n5.it hIt u, U'.itb hI u⟩
  · intro i v hv
    obtain ⟨p, _, t, T, e, _⟩ := hppe.get hv
    exact ⟨T, e⟩
  · rintro i v sa hv J
    obtain ⟨p, hpi, tc, hT⟩ := hppe.get hv
    have hpm : p.1 ∈ Al2 := hpA p (List.mem_of_getElem? hpi)
    have hTs : IsT sa v [.str (S [p.1]) tc, .bool p.2] := by
      obtain ⟨m', cm', t', pl', pvs', F', n1, n2, n3, n4, n5, U'⟩ := J
      exact hT.up Fe U'
    refine wpAny_mono (pair_turn (cd := cd) (nm := nm) (fa := fa) h1' h2' h3' h4' rfl G hA hh5 hpm (placesL_len h _) Fe hTs J) (fun _ s₁ q₁ => wpAny_mono q₁ (fun f s₂ q₂ => ?_) fun _ _ x => x) fun _ _ x => x
    obtain ⟨rfl, q, u⟩ := q₂
    rw [← placesL_snoc hpi] at q
    exact ⟨q, u⟩
  · rintro sa ⟨m', cm', t', pl', pvs', F', n1, n2, n3, n4, n5, U'⟩
    rw [hppe.len, List.take_length] at n5
    obtain ⟨q0, q1, q2, q3, hq, hsum⟩ := law2_plain h hpA
    rw [hq] at n5
    rw [hsum] at n2
    have n5' := n5
    cases n5' with | @cons w0 _ ws0 _ i0 r0 =>
    cases r0 with | @cons w1 _ ws1 _ i1 r1 =>
    cases r1 with | @cons w2 _ ws2 _ i2 r2 =>
    cases r2 with | @cons w3 _ ws3 _ i3 r3 =>
    cases r3
    have Ga : Gd (K2 w) sa.heap := G.h fun b o e => F'.base.keep b o e
    refine wpAny_execs_cons ?_
    refine wpAny_Return_some ?_
    refine wpAny_Compare1 ?_
    refine nmL F' n2 ?_
    refine wpAny_BinOp ?_
    refine Subscript_ ?_
    refine Subscript_ ?_
    refine nmC F' (by rfl) (v := .ref pl') n3 ?_
    refine wpAny_Constant_int ?_
    have k1 : Kp sa { sa with toks := sa.toks + 1 } := Kp.tok (Nat.le_succ _)
    refine at_idx (k := 0) (IL.k n4 k1) (v := w0) rfl (by decide) ?_
    refine wpAny_Constant_int ?_
    have k2 : Kp sa { sa with toks := sa.toks + 1 + 1 } := Kp.tok (by omega)
    refine at_fst (i0.k k2) fun t5 => ?_
    refine wpAny_BinOp ?_
    refine wpAny_Constant_int ?_
    have k3 : Kp sa { sa with toks := sa.toks + 1 + 1 + 1 } := Kp.tok (by omega)
    refine Call_ ?_
    refine nmKB (v := .builtin "sum") (Ga.k k3) (by kernel_rfl) boot_sum ?_
    refine PyProof.Rows.callWith_builtin1 ?_
    refine args_cons ?_
    refine Qt.then (V := fun v s' => ∃ al ys, v = .ref al ∧ s'.heap.IsList al ys.toArray ∧ IntsAre ys [q1.1, q2.1, q3.1]) ?_ ?_
    · have hps : EaP sa [w1, w2, w3] [q1, q2, q3] := .cons i1 (.cons i2 (.cons i3 .nil))
      refine c_comp (n := 3) (P := fun i v => [w1, w2, w3][i]? = some v) (Y := [({ sa with toks := sa.toks + 1 + 1 + 1 + 1 } : Shared).heap.objs.size + 1]) (fun _ => true) (ToF sa) hA.1 (by rw [sizeLine_eq]; omega) ?_ ?_ ?_ ?_
      · refine Subscript_ ?_
        refine nmC (F'.k k3) (by rfl) (v := .ref pl') n3 ?_
        refine wpAny_Slice ?_
        refine evalPart_some_step ?_
        refine wpAny_Constant_int ?_
        refine evalPart_none_step ?_
        refine evalPart_none_step ?_
        refine slice_listK (s := { sa with toks := sa.toks + 1 + 1 + 1 + 1 }) (n4.at fun o e => e) (.int _ _) .none ?_ (hsz := by rw [sizeLine_eq]; simp)
        have e2 : slicePick [w0, w1, w2, w3].toArray (some 1) none none = [w1, w2, w3].toArray := by
          have := slicePick_from' [w0, w1, w2, w3].toArray 1
          simpa using this
        have kn : Kp { sa with toks := sa.toks + 1 + 1 + 1 } { sa with toks := sa.toks + 1 + 1 + 1 + 1 } := Kp.tok (Nat.le_succ _)
        refine ⟨?_, kn.trans ((Kp.push _).trans (Kp.push _))⟩
        show Src prog w _ _ 3 (fun i v => [w1, w2, w3][i]? = some v) _
        refine src_list (vs := [w1, w2, w3]) ?_
        rw [← e2]; exact isList_pushed2 _ _ _
      · intro C j v s₃ m₃ hP hns hm hk
        exact q_notest (v := v) rfl
      · intro C j v s₃ m₃ hP _ hns hm hk
        obtain ⟨p, _, hvp⟩ := hps.get hP
        refine Subscript_ ?_
        refine nmN hns hm ?_
        refine wpAny_Constant_int ?_
        have hk' : Hk sa s₃ := k3.hk.trans hk
        refine at_fst ((hvp.hk hk').k (Kp.tok (Nat.le_succ _))) fun t6 => ?_
        refine ⟨?_, Kp.tok (Nat.le_succ _)⟩
        intro p' hp'
        obtain ⟨ta1, ua1, aa, ea, ha1⟩ := hvp
        obtain ⟨ta2, ua2, ab, eb, hb1⟩ := hp'
        rw [ea] at eb
        cases eb
        obtain ⟨o1, ho1, _, n1', hd1⟩ := ha1
        obtain ⟨o2, ho2, _, n2', hd2⟩ := hb1
        rw [ho1] at ho2
        cases ho2
        rw [hd1] at hd2
        have : p.1 = p'.1 := by injection hd2 with h1 h2; simp at h1; exact h1.1.1
        exact ⟨t6, by rw [this]⟩
      · rintro al s₃ hal k₃ ⟨vs', ys, hpl3, hvl', hvP, hpair⟩
        have e := same_items (us := vs') (vs := [w1, w2, w3]) (by simpa using hvl') hvP
        subst e
        rw [filter_all] at hpair
        exact ⟨⟨al, ys, rfl, hpl3.isList, paired_firsts hps hpair⟩, k₃⟩
    rintro v sf ⟨al, ys, rfl, hal, hys⟩ kf
    refine args_nil ?_
    refine Qt.then (q_sum hA.1 hal hys) ?_
    rintro v sg ⟨tg, rfl⟩ kg
    refine PyProof.Rows.mul_int ?_ (IntMulOk.of_left (by decide +kernel))
    refine add_int ?_
    refine P.eq_int ?_
    refine ⟨?_, F'.base.trans ((k3.trans kf).trans (kg.trans (Kp.tok (k := sg.toks + 1 + 1) (by omega))))⟩
    have e : q0.1 + 2 * (q1.1 + q2.1 + q3.1) = q0.1 + 2 * [q1.1, q2.1, q3.1].sum := by simp; omega
    rw [e, beq_self_eq_true]
end Mine
end
section
open PySem PySem.W PyProof.Rows PySem.Calls
namespace Mine
theorem cellsFrom_above : ∀ (names : List (Str × NameKind)) (n lo : Nat) (acc : List (Str × Addr)), (∀ p ∈ acc, lo ≤ p.2 ∧ p.2 < n) → (acc.Pairwise fun x y => x.2 ≠ y.2) → lo ≤ n →
    (∀ p ∈ cellsFrom n names acc, lo ≤ p.2) ∧ (cellsFrom n names acc).Pairwise fun x y => x.2 ≠ y.2
  | [], n, lo, acc, h1, h2, _ => ⟨fun p hp => (h1 p hp).1, h2⟩
  | (x, k) :: r, n, lo, acc, h1, h2, h3 => by
    unfold cellsFrom
    split
    · refine cellsFrom_above r (n + 1) lo ((x, n) :: acc) ?_ ?_ (by omega)
      · intro p hp
        rcases List.mem_cons.mp hp with rfl | hp
        · exact ⟨h3, Nat.lt_succ_self _⟩
        · have := h1 p hp; exact ⟨this.1, Nat.lt_succ_of_lt this.2⟩
      · refine List.pairwise_cons.mpr ⟨fun y hy e => ?_, h2⟩
        have := (h1 y hy).2
        have e' : n = y.2 := e
        rw [← e'] at this
        exact Nat.lt_irrefl _ this
    · exact cellsFrom_above r n lo acc h1 h2 h3
theorem CellsAre.at_lookup {cm : Str → Option Value} {cs : List (Str × Addr)} {cells : List (Addr × Obj)} (x : CellsAre cm cs cells) : ∀ {n : Str} {c : Addr}, cs.lookup n = some c → ∃ o, (c, o) ∈ cells ∧ o.data = .cell (cm n) := by
  induction x with
  | nil => intro n c h; cases h
  | @cons n' c' o cs cells h _ ih =>
    intro n c hl
    rw [List.lookup_cons] at hl
    cases hb : n == n' with
    | true => rw [hb] at hl; cases hl; rw [beq_iff_eq.mp hb]; exact ⟨o, List.mem_cons_self, h⟩
    | false => rw [hb] at hl; obtain ⟨o', hm, hd⟩ := ih hl; exact ⟨o', List.mem_cons_of_mem _ hm, hd⟩
theorem fs_head {s₁ : Shared} {h₁ : Heap} {tk : Nat} {L : Addr} {m cm : Str → Option Value} {names : List (Str × NameKind)} {cells : List (Addr × Obj)}
    (F : Fr s₁.heap L h₁ m) (N : News s₁.heap L h₁ cells) (X : CellsAre cm (cellsFrom (L + 1) names []) cells) :
    Fs { s₁ with toks := tk } L m (cellsFrom (L + 1) names []) cm { s₁ with heap := h₁, toks := tk } := by
  obtain ⟨ab, ap⟩ := cellsFrom_above names (L + 1) (L + 1) [] (by simp) .nil (Nat.le_refl _)
  refine ⟨⟨⟨⟨h₁, tk, rfl⟩, F.ns, F.keep, F.above⟩, fun n c e => ?_, ap, fun n c hm => ab _ hm⟩, Nat.le_refl _⟩
  obtain ⟨o, hm, hd⟩ := CellsAre.at_lookup X e
  exact ⟨o, N.get hm, hd⟩
/-- the law's end: True -/
theorem good_end {c : ClaimW} {cl : Str → Option Addr} {mean : ExcName → Option Value} {args : List WData} {s₁ s' : Shared} {tk : Nat} (k : Kp { s₁ with toks := tk } s') (hg : s₁.gens = #[]) (hn : ∀ cls, c.raises args cls = false) (hp : c.post args (.bool true) args = true) :
    GoodW c cl mean args s₁ (.ok (.ret (.bool true))) s' := by
  obtain ⟨⟨h, t, rfl⟩, kk, _⟩ := k
  exact ⟨.inl ⟨.bool true, .bool true, [], rfl, hn, .bool true, hp, unshared_nil⟩, fun b o e => kk b o id e, rfl, hg⟩
theorem caller_ok {env : Env} {d : Nat} (hd : d ≤ 100) : Ok (callerA.deeper env) d := by
  refine ⟨rfl, ?_, ?_⟩
  · show 1 + claimMargin + 1 + d < recursionLimit
    simp only [claimMargin, recursionLimit]; omega
  · show 4 + 3 + 8 * d + 8 < cLine
    simp only [cLine]; omega
end Mine
end
section
open PySem PySem.W PyProof.Rows PySem.Calls
namespace Mine
theorem gd_head {K : Frag} {p : Program} {loose : List Str} {mean : ExcName → Option Value} {mg mb : Str → Option Value} {h : Heap} (T : Top p loose mean mg mb h) (KX : K.In h) : Gd K h :=
  ⟨KX, ⟨mg, T.g⟩, ⟨mb, T.b, T.builtins⟩, T.nolimit⟩
theorem law_goal {prog : Program} {w : World} {A : Around} {s₁ : Shared} {h₁ : Heap} {tk : Nat} {L fa a : Addr} {cd : Value} {nm : Str} {o : Obj} {fd : FuncData} {body : List Stmt} {scope : Scope} {m cm : Str → Option Value} {cells : List (Addr × Obj)} {vs : List Value} {ns : List Int}
    (h1 : (K2 w).lookup 106 = some o) (h2 : o.data = .func fd) (h3 : fd.body = .stmts body) (h4 : fd.scope = scope)
    (G : Gd (K2 w) s₁.heap) (hA : Ok A 2) (hl : s₁.heap.IsList a vs.toArray) (hi : IntsAre vs ns) (h63 : ns.length ≤ 63)
    (F : Fr s₁.heap L h₁ m) (N : News s₁.heap L h₁ cells) (X : CellsAre cm (cellsFrom (L + 1) scope.names []) cells) (hm : m "script" = some (.ref a)) :
    wpAny (model prog w) A (execs body (envOfC nm scope L fa cd)) (fun f s' => f = .ret (.bool true) ∧ Kp { s₁ with toks := tk } s') (fun _ _ => False) { s₁ with heap := h₁, toks := tk } :=
  law_body2 (d := 0) (s₀ := { s₁ with toks := tk }) h1 h2 h3 h4 G hA hl hi h63 (fs_head F N X) hm
end Mine
theorem PySem.Challenge.cw_pg0143_02_holds : PySem.Challenge.rw_pg0143_02.Holds :=
  Mine.hd2 (by
    k_go0
    all_goals (try k_fold)
    rename Top _ _ _ _ _ _ => T
    rename Frag.In _ _ => KX
    rename Fr _ _ _ _ => F0
    rename News _ _ _ _ => N0
    rename CellsAre _ _ _ => X0
    rename Heap.IsList _ _ _ => hL
    rename IntsAre _ _ => hI
    rename _ = #[] => hg
    rename ¬ _ => hcond
    refine wpAny_mono (Mine.law_goal (by rfl) rfl rfl rfl (Mine.gd_head T KX) (Mine.caller_ok (by omega)) hL hI (by omega) F0 N0 X0 rfl) (fun f s' q => ?_) fun _ _ x => x.elim
    obtain ⟨rfl, k⟩ := q
    exact Mine.good_end k hg (raisesW_false (by wrow_none_raised)) (by wrow_post))
end
