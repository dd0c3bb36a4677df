import PyProof.Rows.All
import Wide.All
import OpenK.AllK
import Wide.FinOn
import KE.KLam
import KE.KUnpack
import PyProof.FactsTree
import PySem.Challenge.RW_ty0018_01

set_option Elab.async false
namespace Mine
open PySem PySem.W PyProof.Rows
set_option maxRecDepth 100000 in
set_option maxHeartbeats 8000000 in
open_top hd for PySem.Challenge.rw_ty0018_01
end Mine

set_option maxRecDepth 100000
set_option linter.unusedVariables false
set_option linter.all false
namespace Mine
section
open PySem PySem.Calls PyProof.Rows PySem.W

/-- abstract values -/
inductive V where
  | int (i : Int) | str (x : Str) | flt (x : UInt64) | bool (b : Bool) | none
  | list (vs : List V) | tup (vs : List V) | dict (es : List (Int × Int)) | rng (a b : Int)
  | obj (k : Nat) | val (v : Value)
  | code (q : Str) | lam (nm q : Str) (ps : Arguments) (e : Expr) (sc : Scope) (x : Str) (k : Nat)

/-- abstract objects that may be changed -/
inductive O where
  | list (vs : List V) | dict (es : List (Int × Int)) | cell (v : Option V) | tab (vs : List V)

structure St where
  loc : List (Str × V)
  cl : List (Str × Nat)
  heap : List O
  pin : List (Nat × Addr) := []

/-- the fixed ground of one law -/
structure Gam where
  prog : Program
  w : World
  B : Addr → Option Obj
  s0 : Shared

/-- an int-keyed dict of ints stands at a -/
noncomputable def IsD (p : Program) (w : World) (h : Heap) (a : Addr) (es : List (Int × Int)) : Prop :=
  (a == sysModules) = false ∧ ∃ o kvs, h.get? a = some o ∧ o.IsDictOf (PySem.intKind p w) kvs ∧ PyProof.V.FlatPairs PyData.int kvs (kdfD es)

noncomputable abbrev tupleOf (its : Array Value) : Obj := { cls := .type "tuple", data := .seq its }

mutual
inductive VR (p : Program) (w : World) (ρ φ : List Addr) (h : Heap) : V → Value → Prop
  | int (i t) : VR p w ρ φ h (.int i) (.int i t)
  | str (x t) : VR p w ρ φ h (.str x) (.str x t)
  | flt (x t) : VR p w ρ φ h (.flt x) (.float x t)
  | bool (b) : VR p w ρ φ h (.bool b) (.bool b)
  | none : VR p w ρ φ h .none .none
  | val (v) : VR p w ρ φ h (.val v) v
  | obj {k a} : ρ[k]? = some a → VR p w ρ φ h (.obj k) (.ref a)
  | list {vs a its n} : h.get? a = some (listOf its n) → a ∉ ρ → a ∉ φ → VRs p w ρ φ h vs its.toList → VR p w ρ φ h (.list vs) (.ref a)
  | tup {vs a its} : h.get? a = some (tupleOf its) → a ∉ ρ → a ∉ φ → VRs p w ρ φ h vs its.toList → VR p w ρ φ h (.tup vs) (.ref a)
  | dict {es a} : IsD p w h a es → a ∉ ρ → a ∉ φ → VR p w ρ φ h (.dict es) (.ref a)
  | rng {i j a t u v} : IsRange h a i j 1 t u v → a ∉ ρ → a ∉ φ → VR p w ρ φ h (.rng i j) (.ref a)
  | code {q c o vs t} : h.get? c = some o → o.data = .fields vs → vs[1]? = some (.str q t) → c ∉ ρ → c ∉ φ → VR p w ρ φ h (.code q) (.ref c)
  | lam {nm q ps e sc x k f a pm c ctv} : h.get? f = some (kla_obj nm q ps e sc [(x, a)] pm c ctv) → f ∉ ρ → f ∉ φ → ρ[k]? = some a → VR p w ρ φ h (.code q) (.ref c) → VR p w ρ φ h (.lam nm q ps e sc x k) (.ref f)
inductive VRs (p : Program) (w : World) (ρ φ : List Addr) (h : Heap) : List V → List Value → Prop
  | nil : VRs p w ρ φ h [] []
  | cons {v a vs as} : VR p w ρ φ h v a → VRs p w ρ φ h vs as → VRs p w ρ φ h (v :: vs) (a :: as)
end

inductive OR (p : Program) (w : World) (ρ φ : List Addr) (h : Heap) (a : Addr) : O → Prop
  | list {vs its n} : h.get? a = some (listOf its n) → VRs p w ρ φ h vs its.toList → OR p w ρ φ h a (.list vs)
  | dict {es} : IsD p w h a es → OR p w ρ φ h a (.dict es)
  | cellN {o} : h.get? a = some o → o.data = .cell Option.none → OR p w ρ φ h a (.cell Option.none)
  | cellS {o v v'} : h.get? a = some o → o.data = .cell (some v') → VR p w ρ φ h v v' → OR p w ρ φ h a (.cell (some v))
  | tab {vs its} : h.get? a = some (tabObj its) → VRs p w ρ φ h vs its.toList → OR p w ρ φ h a (.tab vs)

/-- what a step may change: the objects of ρ and the frame L; new ones come behind -/
structure Ext (L : Addr) (ρ ρ' : List Addr) (h h' : Heap) : Prop where
  pre : ρ <+: ρ'
  new : ∀ a ∈ ρ', a ∈ ρ ∨ h.get? a = none
  kept : ∀ b o, h.get? b = some o → b ∉ ρ → b ≠ L → h'.get? b = some o
  live : ∀ b o, h.get? b = some o → ∃ o', h'.get? b = some o'

theorem Ext.refl (L ρ h) : Ext L ρ ρ h h := ⟨List.prefix_rfl, fun _ h => .inl h, fun _ _ e _ _ => e, fun _ o e => ⟨o, e⟩⟩
theorem Ext.trans {L ρ ρ' ρ'' h h' h''} (x : Ext L ρ ρ' h h') (y : Ext L ρ' ρ'' h' h'') : Ext L ρ ρ'' h h'' := by
  refine ⟨x.pre.trans y.pre, fun a ha => ?_, fun b o e hb hL => ?_, fun b o e => ?_⟩
  · rcases y.new a ha with h1 | h1
    · exact x.new a h1
    · refine .inr ?_
      cases e : h.get? a with
      | none => rfl
      | some o => obtain ⟨o', e'⟩ := x.live a o e; rw [e'] at h1; cases h1
  · refine y.kept b o (x.kept b o e hb hL) (fun hm => ?_) hL
    rcases x.new b hm with h2 | h2
    · exact hb h2
    · rw [e] at h2; cases h2
  · obtain ⟨o', e'⟩ := x.live b o e
    exact y.live b o' e'
/-- nothing is changed -/
theorem Ext.grow {L ρ h h'} (k : ∀ b o, h.get? b = some o → h'.get? b = some o) : Ext L ρ ρ h h' :=
  ⟨List.prefix_rfl, fun _ h => .inl h, fun b o e _ _ => k b o e, fun b o e => ⟨o, k b o e⟩⟩
/-- one new object comes onto the list -/
theorem Ext.add {L ρ h h' a} (hn : h.get? a = Option.none) (k : ∀ b o, h.get? b = some o → h'.get? b = some o) : Ext L ρ (ρ ++ [a]) h h' :=
  ⟨List.prefix_append .., fun b hb => by
    rcases List.mem_append.mp hb with h1 | h1
    · exact .inl h1
    · rw [List.mem_singleton.mp h1]; exact .inr hn, fun b o e _ _ => k b o e, fun b o e => ⟨o, k b o e⟩⟩
/-- one object of the list is changed -/
theorem Ext.at {L ρ h h' a} (hm : a ∈ ρ) (hs : Heap.SameBut a h h') (hl : ∃ o, h'.get? a = some o) : Ext L ρ ρ h h' :=
  ⟨List.prefix_rfl, fun _ h => .inl h, fun b o e hb _ => (hs.2 b (fun q => hb (q ▸ hm))).trans e, fun b o e => by
    by_cases q : b = a
    · subst q; exact hl
    · exact ⟨o, (hs.2 b q).trans e⟩⟩
/-- the frame is changed -/
theorem Ext.own {L ρ h h'} (hs : Heap.SameBut L h h') (hl : ∃ o, h'.get? L = some o) : Ext L ρ ρ h h' :=
  ⟨List.prefix_rfl, fun _ h => .inl h, fun b o e _ hL => (hs.2 b hL).trans e, fun b o e => by
    by_cases q : b = L
    · subst q; exact hl
    · exact ⟨o, (hs.2 b q).trans e⟩⟩

theorem IsD.at {p w h h' a es} (x : IsD p w h a es) (k : ∀ o, h.get? a = some o → h'.get? a = some o) : IsD p w h' a es :=
  let ⟨q, o, kvs, e, r⟩ := x; ⟨q, o, kvs, k o e, r⟩

/-- the ground of a carried value: where it looks -/
structure Up (ρ φ ρ' φ' : List Addr) (h h' : Heap) : Prop where
  pre : ρ <+: ρ'
  kept : ∀ b o, h.get? b = some o → b ∉ ρ → b ∉ φ → h'.get? b = some o ∧ b ∉ ρ' ∧ b ∉ φ'

theorem pre_get {ρ ρ' : List Addr} (x : ρ <+: ρ') {k : Nat} {a : Addr} (e : ρ[k]? = some a) : ρ'[k]? = some a := by
  obtain ⟨t, rfl⟩ := x
  rw [List.getElem?_append_left (List.getElem?_eq_some_iff.mp e).1]; exact e

theorem VR.up {p w ρ φ ρ' φ' h h' v a} (u : Up ρ φ ρ' φ' h h') (x : VR p w ρ φ h v a) : VR p w ρ' φ' h' v a :=
  VR.rec (motive_1 := fun v a _ => VR p w ρ' φ' h' v a) (motive_2 := fun vs as _ => VRs p w ρ' φ' h' vs as)
    (fun i t => .int i t) (fun x t => .str x t) (fun x t => .flt x t) (fun b => .bool b) .none (fun v => .val v) (fun e => .obj (pre_get u.pre e))
    (fun e h1 h2 _ ih => have k := u.kept _ _ e h1 h2; .list k.1 k.2.1 k.2.2 ih) (fun e h1 h2 _ ih => have k := u.kept _ _ e h1 h2; .tup k.1 k.2.1 k.2.2 ih)
    (fun x h1 h2 => by
      obtain ⟨q, o, kvs, e, r⟩ := x
      obtain ⟨a1, a2, a3⟩ := u.kept _ _ e h1 h2
      exact .dict ⟨q, o, kvs, a1, r⟩ a2 a3)
    (fun x h1 h2 => have k := u.kept _ _ x h1 h2; .rng k.1 k.2.1 k.2.2) (fun e g1 g2 h1 h2 => have k := u.kept _ _ e h1 h2; .code k.1 g1 g2 k.2.1 k.2.2)
    (fun e h1 h2 hk _ ih => have k := u.kept _ _ e h1 h2; .lam k.1 k.2.1 k.2.2 (pre_get u.pre hk) ih) .nil (fun _ _ x r => .cons x r) x
theorem VRs.up {p w ρ φ ρ' φ' h h'} (u : Up ρ φ ρ' φ' h h') : ∀ {vs as}, VRs p w ρ φ h vs as → VRs p w ρ' φ' h' vs as
  | _, _, .nil => .nil
  | _, _, .cons x r => .cons (VR.up u x) (VRs.up u r)

theorem Ext.up {L ρ ρ' φ h h'} (x : Ext L ρ ρ' h h') (hL : L ∈ φ) : Up ρ φ ρ' φ h h' :=
  ⟨x.pre, fun b o e h1 h2 => ⟨x.kept b o e h1 fun q => h2 (q ▸ hL), (fun hm => (x.new b hm).elim h1 fun h3 => by rw [e] at h3; exact (nomatch h3)), h2⟩⟩

theorem VRs.length {p w ρ φ h} : ∀ {vs as}, VRs p w ρ φ h vs as → vs.length = as.length
  | _, _, .nil => rfl
  | _, _, .cons _ r => by simp [VRs.length r]
theorem VRs.get {p w ρ φ h} : ∀ {vs as}, VRs p w ρ φ h vs as → ∀ {i : Nat} {v : V}, vs[i]? = some v → ∃ a, as[i]? = some a ∧ VR p w ρ φ h v a
  | _, _, .nil, _, _, e => by simp at e
  | _, _, .cons x r, 0, _, e => by simp at e; subst e; exact ⟨_, by simp, x⟩
  | _, _, .cons x r, i + 1, _, e => by simp at e; obtain ⟨a, e', y⟩ := VRs.get r e; exact ⟨a, by simpa using e', y⟩
theorem VRs.append {p w ρ φ h} : ∀ {vs as ws bs}, VRs p w ρ φ h vs as → VRs p w ρ φ h ws bs → VRs p w ρ φ h (vs ++ ws) (as ++ bs)
  | _, _, _, _, .nil, y => y
  | _, _, _, _, .cons x r, y => .cons x (VRs.append r y)
theorem VRs.take {p w ρ φ h} : ∀ {vs as}, VRs p w ρ φ h vs as → ∀ n, VRs p w ρ φ h (vs.take n) (as.take n)
  | _, _, .nil, n => by simp; exact .nil
  | _, _, .cons x r, 0 => by simp; exact .nil
  | _, _, .cons x r, n + 1 => by simp; exact .cons x (VRs.take r n)
theorem VRs.drop {p w ρ φ h} : ∀ {vs as}, VRs p w ρ φ h vs as → ∀ n, VRs p w ρ φ h (vs.drop n) (as.drop n)
  | _, _, .nil, n => by simp; exact .nil
  | _, _, .cons x r, 0 => by simp; exact .cons x r
  | _, _, .cons x r, n + 1 => by simp; exact VRs.drop r n

/-- an abstract state stands for a real one -/
structure Rep (Γ : Gam) (env : Env) (ρ φ : List Addr) (st : St) (s : Shared) : Prop where
  same : ∃ h tk, s = { Γ.s0 with heap := h, toks := tk }
  base : ∀ b o, Γ.B b = some o → s.heap.get? b = some o
  len : ρ.length = st.heap.length
  nodup : ρ.Nodup
  freshR : ∀ a ∈ ρ, Γ.B a = none
  freshF : ∀ a ∈ φ, Γ.B a = none
  disj : ∀ a ∈ ρ, a ∉ φ
  heap : ∀ (k : Nat) (o : O), st.heap[k]? = some o → ∃ a : Addr, ρ[k]? = some a ∧ OR Γ.prog Γ.w ρ φ s.heap a o
  own : env.locals ∈ φ
  live : ∀ a ∈ φ, ∃ o, s.heap.get? a = some o
  frame : ∃ m, s.heap.Ns env.locals m ∧ ∀ x v, st.loc.lookup x = some v → ∃ v', m x = some v' ∧ VR Γ.prog Γ.w ρ φ s.heap v v'
  cells : ∀ (x : Str) (k : Nat), st.cl.lookup x = some k → ∃ a : Addr, env.cells.lookup x = some a ∧ ρ[k]? = some a
  pins : ∀ p ∈ st.pin, ρ[p.1]? = some p.2

/-- room for n more calls -/
structure AOk (n : Nat) (A : Around) : Prop where
  handled : A.handled = none
  depth : A.depth + n ≤ 900
  units : A.units + 8 * n ≤ 9000

noncomputable def Post (Γ : Gam) (env : Env) (ρ φ : List Addr) (h₀ : Heap) {α β : Type} (R : List Addr → List Addr → Heap → β → α → Prop) (Q : β → St → Prop) (a : α) (s' : Shared) : Prop :=
  ∃ ρ' b st', Ext env.locals ρ ρ' h₀ s'.heap ∧ Rep Γ env ρ' φ st' s' ∧ R ρ' φ s'.heap b a ∧ Q b st'

/-- a step from an abstract state -/
noncomputable def J (Γ : Gam) (n : Nat) (env : Env) (st : St) {α β : Type} (t : Sem α) (R : List Addr → List Addr → Heap → β → α → Prop) (Q : β → St → Prop) : Prop :=
  ∀ A s ρ φ, AOk n A → Rep Γ env ρ φ st s → wpAny (model Γ.prog Γ.w) A t (Post Γ env ρ φ s.heap R Q) (fun _ _ => False) s

/-- an expression -/
noncomputable def Ev (Γ : Gam) (n : Nat) (env : Env) (st : St) (e : Expr) (Q : V → St → Prop) : Prop := J Γ n env st (eval e env) (VR Γ.prog Γ.w) Q
/-- a test -/
noncomputable def Tst (Γ : Gam) (n : Nat) (env : Env) (st : St) (e : Expr) (Q : Bool → St → Prop) : Prop := J Γ n env st (isTrue e env (eval e env)) (fun _ _ _ b a => a = b) Q
inductive Fl where
  | next | brk | cont | ret (v : V)
noncomputable def FR (Γ : Gam) (ρ φ : List Addr) (h : Heap) : Fl → Flow → Prop
  | .next, f => f = .next
  | .brk, f => f = .brk
  | .cont, f => f = .cont
  | .ret v, f => ∃ a, f = .ret a ∧ VR Γ.prog Γ.w ρ φ h v a
/-- statements -/
noncomputable def Ex (Γ : Gam) (n : Nat) (env : Env) (st : St) (e : Stmt) (Q : Fl → St → Prop) : Prop := J Γ n env st (exec e env) (FR Γ) Q
noncomputable def Exs (Γ : Gam) (n : Nat) (env : Env) (st : St) (e : List Stmt) (Q : Fl → St → Prop) : Prop := J Γ n env st (execs e env) (FR Γ) Q
/-- behind a statement -/
noncomputable abbrev SeqQ (Γ : Gam) (n : Nat) (env : Env) (es : List Stmt) (Q : Fl → St → Prop) : Fl → St → Prop := fun f st => match f with | .next => Exs Γ n env st es Q | f => Q f st
/-- behind a loop's turn -/
noncomputable abbrev LoopQ (P : St → Prop) (Q : Fl → St → Prop) : Fl → St → Prop := fun f st => match f with | .next | .cont => P st | .brk => Q .next st | .ret v => Q (.ret v) st
/-- an operation upon two values -/
noncomputable def Op2 (Γ : Gam) (n : Nat) (env : Env) (st : St) (t : Value → Value → Sem Value) (v w : V) (Q : V → St → Prop) : Prop :=
  ∀ A s ρ φ a b, AOk n A → Rep Γ env ρ φ st s → VR Γ.prog Γ.w ρ φ s.heap v a → VR Γ.prog Γ.w ρ φ s.heap w b → wpAny (model Γ.prog Γ.w) A (t a b) (Post Γ env ρ φ s.heap (VR Γ.prog Γ.w) Q) (fun _ _ => False) s
/-- a call -/
noncomputable def Cal (Γ : Gam) (n : Nat) (env : Env) (st : St) (f : V) (vs : List V) (Q : V → St → Prop) : Prop :=
  ∀ A s ρ φ a as, AOk n A → Rep Γ env ρ φ st s → VR Γ.prog Γ.w ρ φ s.heap f a → VRs Γ.prog Γ.w ρ φ s.heap vs as → wpAny (model Γ.prog Γ.w) A (call a as []) (Post Γ env ρ φ s.heap (VR Γ.prog Γ.w) Q) (fun _ _ => False) s

section
variable {Γ : Gam} {n : Nat} {env : Env} {st : St}

theorem Post.trans {α β : Type} {R : List Addr → List Addr → Heap → β → α → Prop} {Q : β → St → Prop} {ρ ρ' φ : List Addr} {h h' : Heap} {a : α} {s : Shared}
    (x : Ext env.locals ρ ρ' h h') (p : Post Γ env ρ' φ h' R Q a s) : Post Γ env ρ φ h R Q a s :=
  let ⟨ρ'', b, st', y, r⟩ := p; ⟨ρ'', b, st', x.trans y, r⟩
theorem Post.mono {α β : Type} {R : List Addr → List Addr → Heap → β → α → Prop} {Q Q' : β → St → Prop} {ρ φ : List Addr} {h : Heap} {a : α} {s : Shared}
    (p : Post Γ env ρ φ h R Q a s) (hq : ∀ b st, Q b st → Q' b st) : Post Γ env ρ φ h R Q' a s :=
  let ⟨ρ'', b, st', y, r, c, q⟩ := p; ⟨ρ'', b, st', y, r, c, hq _ _ q⟩
theorem Rep.tok {ρ φ s} (r : Rep Γ env ρ φ st s) (t : Nat) : Rep Γ env ρ φ st { s with toks := t } :=
  ⟨let ⟨h, tk, e⟩ := r.same; ⟨h, t, by rw [e]⟩, r.base, r.len, r.nodup, r.freshR, r.freshF, r.disj, r.heap, r.own, r.live, r.frame, r.cells, r.pins⟩
/-- the answer is there, the state as it was -/
theorem Post.here {α β : Type} {R : List Addr → List Addr → Heap → β → α → Prop} {Q : β → St → Prop} {ρ φ : List Addr} {a : α} {b : β} {s : Shared}
    (r : Rep Γ env ρ φ st s) (hr : R ρ φ s.heap b a) (q : Q b st) : Post Γ env ρ φ s.heap R Q a s := ⟨ρ, b, st, Ext.refl .., r, hr, q⟩
theorem Post.tok {α β : Type} {R : List Addr → List Addr → Heap → β → α → Prop} {Q : β → St → Prop} {ρ φ : List Addr} {a : α} {b : β} {s : Shared} {t : Nat}
    (r : Rep Γ env ρ φ st s) (hr : R ρ φ s.heap b a) (q : Q b st) : Post Γ env ρ φ s.heap R Q a { s with toks := t } := ⟨ρ, b, st, Ext.refl .., r.tok t, hr, q⟩
theorem J.mono {α β : Type} {t : Sem α} {R : List Addr → List Addr → Heap → β → α → Prop} {Q Q' : β → St → Prop} (h : J Γ n env st t R Q) (hq : ∀ b st, Q b st → Q' b st) : J Γ n env st t R Q' :=
  fun A s ρ φ hA r => wpAny_mono (h A s ρ φ hA r) (fun _ _ p => p.mono hq) fun _ _ x => x

theorem Ev.int {i k pos Q} (h : Q (.int i) st) : Ev Γ n env st (.Constant (.int i) k pos) Q :=
  fun _ s ρ φ _ r => wpAny_Constant_int (Post.tok r (.int i _) h)

theorem Ev.binop {l op r pos Q} (h : Ev Γ n env st l fun v st1 => Ev Γ n env st1 r fun w st2 => Op2 Γ n env st2 (binaryOp op) v w Q) : Ev Γ n env st (.BinOp l op r pos) Q :=
  fun A s ρ φ hA rp => wpAny_BinOp (wpAny_mono (h A s ρ φ hA rp) (fun a s1 ⟨ρ1, v, st1, x1, r1, v1, q1⟩ =>
    wpAny_mono (q1 A s1 ρ1 φ hA r1) (fun b s2 ⟨ρ2, w, st2, x2, r2, v2, q2⟩ =>
      wpAny_mono (q2 A s2 ρ2 φ a b hA r2 (v1.up (x2.up r2.own)) v2) (fun c s3 p => (p.trans x2).trans x1) fun _ _ x => x.elim) fun _ _ x => x.elim) fun _ _ x => x.elim)

end

end

section
open PySem PySem.Calls PyProof.Rows PySem.W
section
variable {Γ : Gam} {n : Nat} {env : Env} {st : St}

theorem J.use {α β : Type} {t : Sem α} {R : List Addr → List Addr → Heap → β → α → Prop} {Q : β → St → Prop} {A : Around} {s : Shared} {ρ φ : List Addr} {P : α → Shared → Prop} {E : Value → Shared → Prop}
    (h : J Γ n env st t R Q) (hA : AOk n A) (r : Rep Γ env ρ φ st s)
    (k : ∀ a s1 ρ1 b st1, Ext env.locals ρ ρ1 s.heap s1.heap → Rep Γ env ρ1 φ st1 s1 → R ρ1 φ s1.heap b a → Q b st1 → P a s1) : wpAny (model Γ.prog Γ.w) A t P E s :=
  wpAny_mono (h A s ρ φ hA r) (fun a s1 ⟨ρ1, b, st1, x, r1, v, q⟩ => k a s1 ρ1 b st1 x r1 v q) fun _ _ x => x.elim
theorem Op2.use {t : Value → Value → Sem Value} {v w : V} {Q : V → St → Prop} {A : Around} {s : Shared} {ρ φ : List Addr} {P : Value → Shared → Prop} {E : Value → Shared → Prop} {a b : Value}
    (h : Op2 Γ n env st t v w Q) (hA : AOk n A) (r : Rep Γ env ρ φ st s) (h1 : VR Γ.prog Γ.w ρ φ s.heap v a) (h2 : VR Γ.prog Γ.w ρ φ s.heap w b)
    (k : ∀ a s1 ρ1 b st1, Ext env.locals ρ ρ1 s.heap s1.heap → Rep Γ env ρ1 φ st1 s1 → VR Γ.prog Γ.w ρ1 φ s1.heap b a → Q b st1 → P a s1) : wpAny (model Γ.prog Γ.w) A (t a b) P E s :=
  wpAny_mono (h A s ρ φ a b hA r h1 h2) (fun a s1 ⟨ρ1, b, st1, x, r1, v, q⟩ => k a s1 ρ1 b st1 x r1 v q) fun _ _ x => x.elim
theorem Post.mk {α β : Type} {R : List Addr → List Addr → Heap → β → α → Prop} {Q : β → St → Prop} {ρ φ ρ' : List Addr} {h : Heap} {a : α} {b : β} {s' : Shared} {st' : St}
    (x : Ext env.locals ρ ρ' h s'.heap) (r : Rep Γ env ρ' φ st' s') (v : R ρ' φ s'.heap b a) (q : Q b st') : Post Γ env ρ φ h R Q a s' := ⟨ρ', b, st', x, r, v, q⟩

-- constants
theorem Ev.flt {i k pos Q} (h : Q (.flt i) st) : Ev Γ n env st (.Constant (.float i) k pos) Q :=
  fun _ s ρ φ _ r => wpAny_Constant_float (Post.tok r (.flt i _) h)
theorem Ev.str {i k pos Q} (h : Q (.str i) st) : Ev Γ n env st (.Constant (.str i) k pos) Q :=
  fun _ s ρ φ _ r => wpAny_Constant_str (Post.tok r (.str i _) h)
theorem Ev.bool {i k pos Q} (h : Q (.bool i) st) : Ev Γ n env st (.Constant (.bool i) k pos) Q :=
  fun _ s ρ φ _ r => wpAny_Constant_bool (Post.here r (.bool i) h)
theorem Ev.none {k pos Q} (h : Q .none st) : Ev Γ n env st (.Constant .none k pos) Q :=
  fun _ s ρ φ _ r => wpAny_Constant_none (Post.here r .none h)

-- names
theorem Ev.loc {x pos v Q} (hv : st.loc.lookup x = some v) (hk : env.scope.kind = .function) (hl : env.kindOf x = some .local) (hd : (x == ("__debug__" : Str)) = false) (h : Q v st) : Ev Γ n env st (.Name x pos) Q :=
  fun A s ρ φ _ r => by
    obtain ⟨m, hm, hf⟩ := r.frame
    obtain ⟨v', e, hr⟩ := hf x v hv
    exact wpAny_Name (wpAny_loadName_local hk hl hm e (Post.here r hr h)) hd
theorem Rep.cell {ρ φ s x k v} (r : Rep Γ env ρ φ st s) (hc : st.cl.lookup x = some k) (ho : st.heap[k]? = some (.cell (some v))) :
    ∃ a v', env.cells.lookup x = some a ∧ s.heap.IsCell a (some v') ∧ VR Γ.prog Γ.w ρ φ s.heap v v' := by
  obtain ⟨a, e, hr⟩ := r.cells x k hc
  obtain ⟨a', e', ho⟩ := r.heap k _ ho
  rw [hr] at e'; cases e'
  cases ho with
  | cellS h1 h2 h3 => exact ⟨a, _, e, ⟨_, h1, h2⟩, h3⟩
theorem Ev.cel {x pos k v Q} (hc : st.cl.lookup x = some k) (ho : st.heap[k]? = some (.cell (some v))) (hk : env.scope.kind = .function) (hl : env.kindOf x = some .cell) (hd : (x == ("__debug__" : Str)) = false) (h : Q v st) : Ev Γ n env st (.Name x pos) Q :=
  fun A s ρ φ _ r => by
    obtain ⟨a, v', h1, h2, h3⟩ := r.cell hc ho
    exact wpAny_Name (wpAny_loadName_cell hk hl h1 h2 (Post.here r h3 h)) hd
theorem Ev.fre {x pos k v Q} (hc : st.cl.lookup x = some k) (ho : st.heap[k]? = some (.cell (some v))) (hk : env.scope.kind = .function) (hl : env.kindOf x = some .free) (hn : (x == ("__classdict__" : Str)) = false) (hd : (x == ("__debug__" : Str)) = false) (h : Q v st) : Ev Γ n env st (.Name x pos) Q :=
  fun A s ρ φ _ r => by
    obtain ⟨a, v', h1, h2, h3⟩ := r.cell hc ho
    exact wpAny_Name (wpAny_loadName_free hk hl h1 h2 (Post.here r h3 h) hn) hd

/-- a name of the top -/
noncomputable def Gam.In (Γ : Gam) (h : Heap) : Prop := ∀ b o, Γ.B b = some o → h.get? b = some o
noncomputable def GV (Γ : Gam) (x : Str) (v : Value) : Prop := ∃ mg, (∀ h, Γ.In h → h.Ns mainGlobals mg) ∧ mg x = some v
/-- a built-in's name -/
noncomputable def GB (Γ : Gam) (x : Str) (v : Value) : Prop := ∃ mg mb, (∀ h, Γ.In h → h.Ns mainGlobals mg) ∧ mg x = Option.none ∧ (∀ h, Γ.In h → h.Ns builtinsNs mb) ∧ mb x = some v
theorem Ev.glo {x pos v w Q} (hg : GV Γ x w) (hw : ∀ ρ φ h, VR Γ.prog Γ.w ρ φ h v w) (hgl : env.globals = mainGlobals) (hk : env.scope.kind = .function) (hl : env.kindOf x = some .globalImplicit) (hd : (x == ("__debug__" : Str)) = false) (h : Q v st) : Ev Γ n env st (.Name x pos) Q :=
  fun A s ρ φ _ r => by
    obtain ⟨mg, h1, h2⟩ := hg
    exact Name_function_global hk hl (loadGlobal_global (by rw [hgl]; exact h1 _ r.base) h2 (Post.here r (hw _ _ _) h)) hd
theorem Ev.bui {x pos v Q} (hg : GB Γ x v) (hgl : env.globals = mainGlobals) (hbl : env.builtins = builtinsNs) (hk : env.scope.kind = .function) (hl : env.kindOf x = some .globalImplicit) (hd : (x == ("__debug__" : Str)) = false) (h : Q (.val v) st) : Ev Γ n env st (.Name x pos) Q :=
  fun A s ρ φ _ r => by
    obtain ⟨mg, mb, h1, h2, h3, h4⟩ := hg
    exact Name_function_global hk hl (loadGlobal_builtin (by rw [hgl]; exact h1 _ r.base) h2 (by rw [hbl]; exact h3 _ r.base) h4 (Post.here r (.val v) h)) hd

-- stores
noncomputable def Sto (Γ : Gam) (n : Nat) (env : Env) (st : St) (x : Str) (v : V) (Q : St → Prop) : Prop :=
  ∀ A s ρ φ a, AOk n A → Rep Γ env ρ φ st s → VR Γ.prog Γ.w ρ φ s.heap v a → wpAny (model Γ.prog Γ.w) A (storeName env x a) (fun _ s' => ∃ st', Ext env.locals ρ ρ s.heap s'.heap ∧ Rep Γ env ρ φ st' s' ∧ Q st') (fun _ _ => False) s
noncomputable abbrev St.put (st : St) (x : Str) (v : V) : St := { st with loc := (x, v) :: st.loc }
noncomputable abbrev St.upd (st : St) (k : Nat) (o : O) : St := { st with heap := st.heap.set k o }

theorem lookup_put {α : Type} (x y : Str) (v : α) (l : List (Str × α)) : ((x, v) :: l).lookup y = if y = x then some v else l.lookup y := by
  rw [List.lookup_cons]
  by_cases h : y = x
  · subst h; simp
  · rw [if_neg h, beq_eq_false_iff_ne.mpr h]
theorem Sto.loc {x v} {Q : St → Prop} (hl : env.kindOf x = some .local) (hp : (env.scope.kind == .class || (env.scope.kind == .module && env.locals != env.globals)) = false) (h : Q (st.put x v)) : Sto Γ n env st x v Q :=
  fun A s ρ φ a hA r ha => by
    obtain ⟨m, hm, hf⟩ := r.frame
    have hLB := r.freshF _ r.own
    have hLr : env.locals ∉ ρ := fun q => r.disj _ q r.own
    refine wpAny_storeName_local hl hm (fun h' hn hs => ?_) hp
    have hlive : ∃ o, h'.get? env.locals = some o := by obtain ⟨o, _, _, e, _⟩ := hn; exact ⟨o, e⟩
    have x1 : Ext env.locals ρ ρ s.heap h' := Ext.own hs hlive
    have u := x1.up r.own
    refine ⟨st.put x v, x1, ⟨(let ⟨h0, tk, e⟩ := r.same; ⟨h', s.toks + 1, by rw [e]⟩), fun b o e => ?_, r.len, r.nodup, r.freshR, r.freshF, r.disj, fun k o e => ?_, r.own, fun b hb => ?_, ⟨_, hn, fun y w hy => ?_⟩, r.cells, r.pins⟩, h⟩
    · exact x1.kept b o (r.base b o e) (fun q => by rw [r.freshR b q] at e; cases e) (fun q => by rw [q, hLB] at e; cases e)
    · obtain ⟨b, e1, ho⟩ := r.heap k o e
      have hbr : b ∈ ρ := List.mem_of_getElem? e1
      have hne : b ≠ env.locals := fun q => hLr (q ▸ hbr)
      refine ⟨b, e1, ?_⟩
      cases ho with
      | list g1 g2 => exact .list ((hs.2 b hne).trans g1) (g2.up u)
      | dict g1 => exact .dict (g1.at fun o e => (hs.2 b hne).trans e)
      | cellN g1 g2 => exact .cellN ((hs.2 b hne).trans g1) g2
      | cellS g1 g2 g3 => exact .cellS ((hs.2 b hne).trans g1) g2 (g3.up u)
      | tab g1 g2 => exact .tab ((hs.2 b hne).trans g1) (g2.up u)
    · obtain ⟨o, e⟩ := r.live b hb; exact x1.live b o e
    · show ∃ v', (if y = x then some a else m y) = some v' ∧ _
      have hy' : (if y = x then some v else st.loc.lookup y) = some w := by rw [← lookup_put]; exact hy
      by_cases q : y = x
      · rw [if_pos q] at hy' ⊢; cases hy'; exact ⟨a, rfl, ha.up u⟩
      · rw [if_neg q] at hy' ⊢; obtain ⟨v', e1, e2⟩ := hf y w hy'; exact ⟨v', e1, e2.up u⟩

/-- one object of the list has been changed -/
theorem Rep.set {ρ φ s h' tk k a o} (r : Rep Γ env ρ φ st s) (hk : ρ[k]? = some a) (hlt : k < st.heap.length) (hs : Heap.SameBut a s.heap h') (u : Up ρ φ ρ φ s.heap h') (ho : OR Γ.prog Γ.w ρ φ h' a o) (hlive : ∃ o, h'.get? a = some o) :
    Ext env.locals ρ ρ s.heap h' ∧ Rep Γ env ρ φ (st.upd k o) { s with heap := h', toks := tk } := by
  have hm : a ∈ ρ := List.mem_of_getElem? hk
  have x1 : Ext env.locals ρ ρ s.heap h' := Ext.at hm hs hlive
  have hLr : env.locals ∉ ρ := fun q => r.disj _ q r.own
  have hLa : env.locals ≠ a := fun q => hLr (q ▸ hm)
  refine ⟨x1, (let ⟨h0, tk, e⟩ := r.same; ⟨h', _, by rw [e]⟩), fun b o e => ?_, by simp [St.upd, r.len], r.nodup, r.freshR, r.freshF, r.disj, fun j o' e => ?_, r.own, fun b hb => ?_, ?_, r.cells, r.pins⟩
  · refine (hs.2 b fun q => ?_).trans (r.base b o e)
    rw [q, r.freshR a hm] at e; cases e
  · simp only [St.upd] at e
    rw [List.getElem?_set] at e
    by_cases q : k = j
    · subst q
      rw [if_pos rfl, if_pos hlt] at e
      cases e
      exact ⟨a, hk, ho⟩
    · rw [if_neg q] at e
      obtain ⟨b, e1, ho'⟩ := r.heap j o' e
      have hne : b ≠ a := fun z => q ((List.getElem?_inj (List.getElem?_eq_some_iff.mp hk).1 r.nodup).mp (by rw [hk, e1, z]))
      refine ⟨b, e1, ?_⟩
      cases ho' with
      | list g1 g2 => exact .list ((hs.2 b hne).trans g1) (g2.up u)
      | dict g1 => exact .dict (g1.at fun o e => (hs.2 b hne).trans e)
      | cellN g1 g2 => exact .cellN ((hs.2 b hne).trans g1) g2
      | cellS g1 g2 g3 => exact .cellS ((hs.2 b hne).trans g1) g2 (g3.up u)
      | tab g1 g2 => exact .tab ((hs.2 b hne).trans g1) (g2.up u)
  · obtain ⟨o, e⟩ := r.live b hb; exact x1.live b o e
  · obtain ⟨m, hm', hf⟩ := r.frame
    exact ⟨m, hm'.sameBut hs hLa, fun y w hy => let ⟨v', e1, e2⟩ := hf y w hy; ⟨v', e1, e2.up u⟩⟩
theorem Up.at {ρ φ : List Addr} {h h' a} (hm : a ∈ ρ) (hs : Heap.SameBut a h h') : Up ρ φ ρ φ h h' :=
  ⟨List.prefix_rfl, fun b o e h1 h2 => ⟨(hs.2 b fun q => h1 (q ▸ hm)).trans e, h1, h2⟩⟩
theorem Sto.cel {x v k c} {Q : St → Prop} (hc : st.cl.lookup x = some k) (ho : st.heap[k]? = some (.cell c)) (hk : env.scope.kind = .function) (hl : env.kindOf x = some .cell) (h : Q (st.upd k (.cell (some v)))) : Sto Γ n env st x v Q :=
  fun A s ρ φ a hA r ha => by
    obtain ⟨b, e, hr⟩ := r.cells x k hc
    obtain ⟨b', e', ho'⟩ := r.heap k _ ho
    rw [hr] at e'; cases e'
    have hic : ∃ v₀, s.heap.IsCell b v₀ := by
      cases ho' with
      | cellN g1 g2 => exact ⟨_, _, g1, g2⟩
      | cellS g1 g2 _ => exact ⟨_, _, g1, g2⟩
    obtain ⟨v₀, hic⟩ := hic
    have hm : b ∈ ρ := List.mem_of_getElem? hr
    refine wpAny_storeName_cell hk hl e hic fun h' hv hs => ?_
    obtain ⟨o1, g1, g2⟩ := hv
    have u : Up ρ φ ρ φ s.heap h' := Up.at hm hs
    obtain ⟨y1, y2⟩ := r.set (tk := s.toks) (o := .cell (some v)) hr (List.getElem?_eq_some_iff.mp ho).1 hs u (.cellS g1 g2 (ha.up u)) ⟨_, g1⟩
    exact ⟨_, y1, y2, h⟩

-- statements
theorem Exs.nil {Q} (h : Q .next st) : Exs Γ n env st [] Q := fun A s ρ φ _ r => wpAny_execs_nil (Post.here r (b := Fl.next) rfl h)
theorem Exs.cons {e es} {Q : Fl → St → Prop} (h : Ex Γ n env st e (SeqQ Γ n env es Q)) : Exs Γ n env st (e :: es) Q :=
  fun A s ρ φ hA r => wpAny_execs_cons (J.use h hA r fun f s1 ρ1 b st1 x r1 v q => by
    cases b with
    | next => cases v; exact wpAny_mono (q A s1 ρ1 φ hA r1) (fun _ _ p => p.trans x) fun _ _ z => z
    | brk => cases v; exact Post.mk x r1 (b := Fl.brk) rfl q
    | cont => cases v; exact Post.mk x r1 (b := Fl.cont) rfl q
    | ret w => obtain ⟨a, rfl, hw⟩ := v; exact Post.mk x r1 (b := Fl.ret w) ⟨a, rfl, hw⟩ q)
theorem Ex.assign {x p e pos} {Q : Fl → St → Prop} (hs : swapsWith e (some (.Name x p)) pos.line env = pure false) (h : Ev Γ n env st e fun v st1 => Sto Γ n env st1 x v (Q .next)) : Ex Γ n env st (.Assign [.Name x p] e pos) Q :=
  fun A s ρ φ hA r => wpAny_Assign_Name (J.use h hA r fun a s1 ρ1 b st1 x r1 v q => wpAny_mono (q A s1 ρ1 φ a hA r1 v) (fun _ s2 ⟨st2, x2, r2, q2⟩ => Post.mk (x.trans x2) r2 (b := Fl.next) rfl q2) fun _ _ z => z) hs
theorem Ex.ret {e pos} {Q : Fl → St → Prop} (h : Ev Γ n env st e fun v st1 => Q (.ret v) st1) : Ex Γ n env st (.Return (some e) pos) Q :=
  fun A s ρ φ hA r => wpAny_Return_some (J.use h hA r fun a s1 ρ1 b st1 x r1 v q => Post.mk x r1 (b := Fl.ret b) ⟨a, rfl, v⟩ q)
theorem Ex.iff {t b o pos} {Q : Fl → St → Prop} (h : Tst Γ n env st t fun c st1 => if c = true then Exs Γ n env st1 b Q else Exs Γ n env st1 o Q) : Ex Γ n env st (.If t b o pos) Q :=
  fun A s ρ φ hA r => wpAny_If (J.use h hA r fun a s1 ρ1 c st1 x r1 v q => by
    cases v
    cases a
    · exact wpAny_mono (q A s1 ρ1 φ hA r1) (fun _ _ p => p.trans x) fun _ _ z => z
    · exact wpAny_mono (q A s1 ρ1 φ hA r1) (fun _ _ p => p.trans x) fun _ _ z => z)
theorem Ev.mono {e} {Q Q' : V → St → Prop} (h : Ev Γ n env st e Q) (hq : ∀ f st, Q f st → Q' f st) : Ev Γ n env st e Q' := J.mono h hq
/-- a while: a word over the abstract states, a measure -/
theorem Ex.while {t b pos} {Q : Fl → St → Prop} (I : Nat → St → Prop) (k : Nat) (h0 : I k st)
    (turn : ∀ j st, I j st → Tst Γ n env st t fun c st1 => if c = true then Exs Γ n env st1 b (LoopQ (fun st2 => ∃ i, i < j ∧ I i st2) Q) else Q .next st1) :
    Ex Γ n env st (.While t b [] pos) Q := fun A s ρ φ hA r => by
  refine wpAny_While (codeAny_whileLoop (R := fun r s' => match r with | .ok f => Post Γ env ρ φ s.heap (FR Γ) Q f s' | .error e => cameBackBy (model Γ.prog Γ.w) A env (fun _ _ => False) e s')
    (fun j s' => ∃ ρ' st', Ext env.locals ρ ρ' s.heap s'.heap ∧ Rep Γ env ρ' φ st' s' ∧ I j st') ?_ k ⟨ρ, st, Ext.refl .., r, h0⟩)
  rintro j s' ⟨ρ', st', x, r', hI⟩
  refine J.use (turn j st' hI) hA r' fun a s1 ρ1 c st1 x1 r1 v q => ?_
  cases v
  cases a with
  | false => exact wpAny_execs_nil (Post.mk (x.trans x1) r1 (b := Fl.next) rfl (by simpa using q))
  | true =>
    simp only [if_true] at q ⊢
    refine J.use q hA r1 fun f s2 ρ2 c st2 x2 r2 v q2 => ?_
    have y := (x.trans x1).trans x2
    cases c with
    | next => cases v; obtain ⟨i, h1, h2⟩ := q2; exact ⟨i, h1, ρ2, st2, y, r2, h2⟩
    | cont => cases v; obtain ⟨i, h1, h2⟩ := q2; exact ⟨i, h1, ρ2, st2, y, r2, h2⟩
    | brk => cases v; exact Post.mk y r2 (b := Fl.next) rfl q2
    | ret w => obtain ⟨a, rfl, hw⟩ := v; exact Post.mk y r2 (b := Fl.ret w) ⟨a, rfl, hw⟩ q2

-- tests
theorem Tst.cmp {l op e pos} {Q : Bool → St → Prop} (hm : behindInMarks op e = false) (h : Ev Γ n env st l fun v st1 => Ev Γ n env st1 e fun w st2 => Op2 Γ n env st2 (compareOp op) v w fun c st3 => ∃ b, c = .bool b ∧ Q b st3) :
    Tst Γ n env st (.Compare l [op] [e] pos) Q := fun A s ρ φ hA r =>
  wpAny_isTrue_Compare1 (J.use h hA r fun a s1 ρ1 v st1 x1 r1 v1 q1 => J.use q1 hA r1 fun b s2 ρ2 w st2 x2 r2 v2 q2 =>
    Op2.use q2 hA r2 (v1.up (x2.up r2.own)) v2 fun c s3 ρ3 cv st3 x3 r3 v3 q3 => by
      obtain ⟨b, rfl, q⟩ := q3
      cases v3
      exact wpAny_truthy_bool (Post.mk ((x1.trans x2).trans x3) r3 rfl q)) hm
theorem Ev.cmp {l op e pos} {Q : V → St → Prop} (hm : behindInMarks op e = false) (h : Ev Γ n env st l fun v st1 => Ev Γ n env st1 e fun w st2 => Op2 Γ n env st2 (compareOp op) v w Q) :
    Ev Γ n env st (.Compare l [op] [e] pos) Q := fun A s ρ φ hA r =>
  wpAny_Compare1 (J.use h hA r fun a s1 ρ1 v st1 x1 r1 v1 q1 => J.use q1 hA r1 fun b s2 ρ2 w st2 x2 r2 v2 q2 =>
    Op2.use q2 hA r2 (v1.up (x2.up r2.own)) v2 fun c s3 ρ3 cv st3 x3 r3 v3 q3 => Post.mk ((x1.trans x2).trans x3) r3 v3 q3) hm

end

end

section
open PySem PySem.Calls PyProof.Rows PySem.W
section
variable {Γ : Gam} {n : Nat} {env : Env} {st : St} {Q : V → St → Prop}

theorem Op2.addI {i j : Int} (h : Q (.int (i + j)) st) : Op2 Γ n env st (binaryOp .Add) (.int i) (.int j) Q := by
  intro A s ρ φ a b hA r ha hb; cases ha; cases hb
  exact PyProof.Rows.add_int (Post.tok r (.int _ _) h)
theorem Op2.subI {i j : Int} (h : Q (.int (i - j)) st) : Op2 Γ n env st (binaryOp .Sub) (.int i) (.int j) Q := by
  intro A s ρ φ a b hA r ha hb; cases ha; cases hb
  exact PyProof.Rows.sub_int' (Post.tok r (.int _ _) h)
theorem Op2.mulI {i j : Int} (hm : IntMulOk i j) (h : Q (.int (i * j)) st) : Op2 Γ n env st (binaryOp .Mult) (.int i) (.int j) Q := by
  intro A s ρ φ a b hA r ha hb; cases ha; cases hb
  exact PyProof.Rows.mul_int (Post.tok r (.int _ _) h) hm
theorem Op2.modI {i j : Int} (hj : j ≠ 0) (h : Q (.int (i.fmod j)) st) : Op2 Γ n env st (binaryOp .Mod) (.int i) (.int j) Q := by
  intro A s ρ φ a b hA r ha hb; cases ha; cases hb
  exact PyProof.Rows.mod_int' hj (Post.tok r (.int _ _) h)
theorem Op2.fdivI {i j : Int} (hj : j ≠ 0) (hs : j.natAbs < 1073741824) (h : Q (.int (i.fdiv j)) st) : Op2 Γ n env st (binaryOp .FloorDiv) (.int i) (.int j) Q := by
  intro A s ρ φ a b hA r ha hb; cases ha; cases hb
  exact PyProof.Rows.floordiv_int hj (Post.tok r (.int _ _) h) (Or.inl (PyProof.noPylong_small hs))
theorem Op2.divI {i j : Int} (hj : j ≠ 0) (hs : i.natAbs < 2 ^ 1023) (h : Q (.flt (Float64.ofFrac (decide (i < 0) != decide (j < 0)) i.natAbs j.natAbs)) st) : Op2 Γ n env st (binaryOp .Div) (.int i) (.int j) Q := by
  intro A s ρ φ a b hA r ha hb; cases ha; cases hb
  exact PySem.Flt.div_ii_fits hA.handled hs (fun e => absurd e hj) fun _ _ => Post.tok r (.flt _ _) h
theorem Op2.addF {i j : UInt64} (h : Q (.flt (Float64.add i j)) st) : Op2 Γ n env st (binaryOp .Add) (.flt i) (.flt j) Q := by
  intro A s ρ φ a b hA r ha hb; cases ha; cases hb
  exact PyProof.Rows.add_float (Post.tok r (.flt _ _) h)
theorem Op2.subF {i j : UInt64} (h : Q (.flt (Float64.sub i j)) st) : Op2 Γ n env st (binaryOp .Sub) (.flt i) (.flt j) Q := by
  intro A s ρ φ a b hA r ha hb; cases ha; cases hb
  exact PyProof.Rows.sub_float (Post.tok r (.flt _ _) h)
theorem Op2.divF {i j : UInt64} (hj : Float64.isZero j = false) (h : Q (.flt (Float64.div i j)) st) : Op2 Γ n env st (binaryOp .Div) (.flt i) (.flt j) Q := by
  intro A s ρ φ a b hA r ha hb; cases ha; cases hb
  exact AutoFloatOps.truediv_1 (by rw [hj]; exact Bool.false_ne_true) (Post.tok r (.flt _ _) h)
theorem Op2.modF {i j : UInt64} (hj : Float64.isZero j = false) (h : Q (.flt (Float64.divmod i j).snd) st) : Op2 Γ n env st (binaryOp .Mod) (.flt i) (.flt j) Q := by
  intro A s ρ φ a b hA r ha hb; cases ha; cases hb
  exact AutoFloatOps.mod_1 (by rw [hj]; exact Bool.false_ne_true) (Post.tok r (.flt _ _) h)
theorem Op2.mulFI {i : UInt64} {j : Int} (hs : j.natAbs < 2 ^ 1023) (h : Q (.flt (Float64.mul i (Float64.ofInt j))) st) : Op2 Γ n env st (binaryOp .Mult) (.flt i) (.int j) Q := by
  intro A s ρ φ a b hA r ha hb; cases ha; cases hb
  exact PyProof.Rows.mul_fi_fits hs (Post.tok r (.flt _ _) h)
theorem Op2.addS {i j : Str} (hs : i.length + j.length ≤ sizeLine) (h : Q (.str (i ++ j)) st) : Op2 Γ n env st (binaryOp .Add) (.str i) (.str j) Q := by
  intro A s ρ φ a b hA r ha hb; cases ha; cases hb
  exact PyProof.Rows.add_str (fun _ _ => Post.tok r (.str _ _) h) hs

theorem Op2.ltI {i j : Int} (h : Q (.bool (decide (i < j))) st) : Op2 Γ n env st (compareOp .Lt) (.int i) (.int j) Q := by
  intro A s ρ φ a b hA r ha hb; cases ha; cases hb
  exact PyProof.Rows.lt_int (Post.here r (.bool _) h)
theorem Op2.leI {i j : Int} (h : Q (.bool (decide (i ≤ j))) st) : Op2 Γ n env st (compareOp .LtE) (.int i) (.int j) Q := by
  intro A s ρ φ a b hA r ha hb; cases ha; cases hb
  exact PyProof.Rows.le_int (Post.here r (.bool _) h)
theorem Op2.eqI {i j : Int} (h : Q (.bool (i == j)) st) : Op2 Γ n env st (compareOp .Eq) (.int i) (.int j) Q := by
  intro A s ρ φ a b hA r ha hb; cases ha; cases hb
  exact PyProof.Rows.eq_int (Post.here r (.bool _) h)
theorem Op2.neI {i j : Int} (h : Q (.bool (i != j)) st) : Op2 Γ n env st (compareOp .NotEq) (.int i) (.int j) Q := by
  intro A s ρ φ a b hA r ha hb; cases ha; cases hb
  exact PyProof.Rows.ne_int (Post.here r (.bool _) h)
theorem Op2.eqF {i j : UInt64} (h : Q (.bool (Float64.cmp i j == some Ordering.eq)) st) : Op2 Γ n env st (compareOp .Eq) (.flt i) (.flt j) Q := by
  intro A s ρ φ a b hA r ha hb; cases ha; cases hb
  exact AutoFloatOps.eq_0 (Post.here r (.bool _) h)
theorem Op2.eqB {i j : Bool} (h : Q (.bool (i == j)) st) : Op2 Γ n env st (compareOp .Eq) (.bool i) (.bool j) Q := by
  intro A s ρ φ a b hA r ha hb; cases ha; cases hb
  exact PyProof.Rows.eq_bool (Post.here r (.bool _) h)
theorem Op2.isNN (h : Q (.bool true) st) : Op2 Γ n env st (compareOp .Is) .none .none Q := by
  intro A s ρ φ a b hA r ha hb; cases ha; cases hb
  exact wpAny_is_self rfl (Post.here r (.bool _) h)
end

end

section
open PySem PySem.Calls PyProof.Rows PySem.W
section
variable {Γ : Gam} {n : Nat} {env : Env} {st : St} {Q : V → St → Prop}

noncomputable def KP (Γ : Gam) (f : Value) : Prop := ∀ h, Γ.In h → ∃ k, (k = Keeper.frame ∨ k = Keeper.machine ∨ k = Keeper.boundFrame) ∧ Looks (model Γ.prog Γ.w) h (keeperOf f) k
theorem KP.builtin {id} : KP Γ (.builtin id) := fun _ _ => ⟨.machine, .inr (.inl rfl), Looks.of_pure rfl⟩
theorem KP.type {T} : KP Γ (.type T) := fun _ _ => ⟨.machine, .inr (.inl rfl), Looks.of_pure rfl⟩
theorem KP.fn {a o fd} (hB : Γ.B a = some o) (hd : o.data = .func fd) : KP Γ (.ref a) := fun h hi => by
  refine ⟨.frame, .inl rfl, fun A Q E s hk q => ?_⟩
  unfold keeperOf
  refine wpAny_bind (wpAny_load (hk _ _ (hi _ _ hB)) ?_)
  rw [hd]; exact wpAny_pure q

noncomputable def Arg (Γ : Gam) (n : Nat) (env : Env) (st : St) (pos : Pos) (args : List Expr) (Q : List V → St → Prop) : Prop := J Γ n env st (spliced (backTo pos (starEach args env))) (VRs Γ.prog Γ.w) Q
theorem Arg.nil {pos} {Q : List V → St → Prop} (h : Q [] st) : Arg Γ n env st pos [] Q := fun A s ρ φ hA r => args_nil (Post.here r .nil h)
theorem Arg.cons {pos e es} {Q : List V → St → Prop} (h : Ev Γ n env st e fun v st1 => Arg Γ n env st1 pos es fun vs st2 => Q (v :: vs) st2)
    (he : starEach (e :: es) env = (false, eval e env) :: starEach es env := by rfl) : Arg Γ n env st pos (e :: es) Q := fun A s ρ φ hA r =>
  args_cons (J.use h hA r fun a s1 ρ1 v st1 x1 r1 v1 q1 => J.use q1 hA r1 fun b s2 ρ2 w st2 x2 r2 v2 q2 =>
    Post.mk (x1.trans x2) r2 (.cons (v1.up (x2.up r2.own)) v2) q2) he

theorem VR.val_inv {p w ρ φ h v a} (x : VR p w ρ φ h (.val v) a) : a = v := by cases x; rfl

theorem Ev.call {func e es pos} (h : Ev Γ n env st func fun f st1 => ∃ fv, f = .val fv ∧ KP Γ fv ∧ Arg Γ n env st1 pos (e :: es) fun vs st2 => Cal Γ n env st2 f vs Q)
    (he : eval (.Call func (e :: es) [] pos) env = (do callWith pos (← eval func env) [] (backTo pos (starEach (e :: es) env)) (backToKw pos (keywordEach [] env))) := by rfl)
    (he2 : starEach (e :: es) env = (false, eval e env) :: starEach es env := by rfl) (hplain : (backTo pos (starEach es env)).any (·.1) = false := by rfl) :
    Ev Γ n env st (.Call func (e :: es) [] pos) Q := fun A s ρ φ hA r => by
  refine Call_ (J.use h hA r fun a s1 ρ1 f st1 x1 r1 v1 q1 => ?_) he
  obtain ⟨fv, rfl, hk, q1⟩ := q1
  obtain rfl := v1.val_inv
  have q2 := fun A s ρ φ hA r => q1 A s ρ φ hA r
  rw [he2] at q2 ⊢
  refine callWith_of (P := Γ.In) (keywords := []) (by show ((false || (backTo pos (starEach es env)).any (·.1)) || false) = false; rw [hplain]; rfl) hk (evalArgs_plain ?_)
  refine wpAny_mono (q2 A s1 ρ1 φ hA r1) (fun as s2 ⟨ρ2, vs, st2, x2, r2, v2, q3⟩ => ⟨r2.base, ?_⟩) fun _ _ z => z.elim
  exact wpAny_mono (q3 A s2 ρ2 φ _ _ hA r2 (.val _) v2) (fun _ _ p => (p.trans x2).trans x1) fun _ _ z => z
theorem Ev.call0 {func pos} (h : Ev Γ n env st func fun f st1 => ∃ fv, f = .val fv ∧ KP Γ fv ∧ Cal Γ n env st1 f [] Q)
    (he : eval (.Call func [] [] pos) env = (do callWith pos (← eval func env) [] (backTo pos (starEach [] env)) (backToKw pos (keywordEach [] env))) := by rfl) :
    Ev Γ n env st (.Call func [] [] pos) Q := fun A s ρ φ hA r => by
  refine Call_ (J.use h hA r fun a s1 ρ1 f st1 x1 r1 v1 q1 => ?_) he
  obtain ⟨fv, rfl, hk, q1⟩ := q1
  obtain rfl := v1.val_inv
  refine callWith_of (P := Γ.In) (args := []) (keywords := []) rfl hk (PyProof.Rows.evalArgs_none ⟨r1.base, ?_⟩)
  exact wpAny_mono (q1 A s1 ρ1 φ _ _ hA r1 (.val _) .nil) (fun _ _ p => p.trans x1) fun _ _ z => z

/-- the class of a value, and that it bears no dict -/
noncomputable def TyIs (Γ : Gam) (st : St) (v : V) (T : String) : Prop :=
  ∀ env ρ φ s a, Rep Γ env ρ φ st s → VR Γ.prog Γ.w ρ φ s.heap v a → s.TypeIs a T ∧ ∀ b, a = .ref b → ∃ ob, s.heap.get? b = some ob ∧ ob.dict = Option.none
theorem TyIs.str {x} : TyIs Γ st (.str x) "str" := fun env ρ φ s a r v => by cases v; exact ⟨rfl, fun b e => nomatch e⟩
theorem TyIs.list {vs} : TyIs Γ st (.list vs) "list" := fun env ρ φ s a r v => by
  cases v with
  | list e => exact ⟨⟨_, e, rfl⟩, fun b q => by cases q; exact ⟨_, e, rfl⟩⟩
theorem TyIs.obj {k vs} (ho : st.heap[k]? = some (.list vs)) : TyIs Γ st (.obj k) "list" := fun env ρ φ s a r v => by
  cases v with
  | obj e =>
    obtain ⟨b, e1, ho⟩ := r.heap k _ ho
    rw [e] at e1; cases e1
    cases ho with
    | list g1 g2 => exact ⟨⟨_, g1, rfl⟩, fun b q => by cases q; exact ⟨_, g1, rfl⟩⟩
theorem Ev.meth {o name apos args pos T id} (pa : PlainAttrs T) (slot : Slot T name id) (hty : typeOf (.builtin id) = pure (.type "method_descriptor"))
    (hbase : attributeBase o name env (eval o env) = eval o env)
    (hfew : ((backTo pos (starEach args env)).all (fun x => !x.1) && (backToKw pos (keywordEach [] env)).all (fun x => x.1.isSome)
      && decide (args.length + ([] : List Keyword).length + (if ([] : List Keyword).isEmpty then 0 else 1) < 30)) = true)
    (hline : (apos.endLine == pos.line) = true)
    (h : Ev Γ n env st o fun ov st1 => TyIs Γ st1 ov T ∧ Arg Γ n env st1 pos args fun vs st2 => Cal Γ n env st2 (.val (.builtin id)) (ov :: vs) Q)
    (hplain : (backTo pos (starEach args env)).any (·.1) = false := by rfl)
    (hev : ∀ {A : Around} {E : Value → Shared → Prop} {s : Shared} {P : Args → Shared → Prop}, wpAny (model Γ.prog Γ.w) A (spliced (backTo pos (starEach args env))) (fun vs s' => P ⟨vs, []⟩ s') E s →
      wpAny (model Γ.prog Γ.w) A (evalArgs (.builtin id) true (backTo pos (starEach args env)) []) P E s) :
    Ev Γ n env st (.Call (.Attribute o name apos) args [] pos) Q := fun A s ρ φ hA r => by
  refine wpAny_Call_method hbase hfew hline pa slot hty (J.use h hA r fun a s1 ρ1 ov st1 x1 r1 v1 q1 => ?_)
  obtain ⟨hT, q1⟩ := q1
  obtain ⟨t1, t2⟩ := hT env ρ1 φ s1 a r1 v1
  refine ⟨t1, t2, callWith_builtin hplain (hev ?_)⟩
  refine wpAny_mono (q1 A s1 ρ1 φ hA r1) (fun as s2 ⟨ρ2, vs, st2, x2, r2, v2, q3⟩ => ?_) fun _ _ z => z.elim
  exact wpAny_mono (q3 A s2 ρ2 φ _ _ hA r2 (.val _) (.cons (v1.up (x2.up r2.own)) v2)) (fun _ _ p => (p.trans x2).trans x1) fun _ _ z => z

-- a def of the text
inductive BRs (p : Program) (w : World) (ρ φ : List Addr) (h : Heap) : List (Str × V) → List (Str × Value) → Prop
  | nil : BRs p w ρ φ h [] []
  | cons {x v a l r} : VR p w ρ φ h v a → BRs p w ρ φ h l r → BRs p w ρ φ h ((x, v) :: l) ((x, a) :: r)
theorem BRs.snoc {p w ρ φ h x v a} : ∀ {l r}, BRs p w ρ φ h l r → VR p w ρ φ h v a → BRs p w ρ φ h (l ++ [(x, v)]) (r ++ [(x, a)])
  | _, _, .nil, y => .cons y .nil
  | _, _, .cons y t, z => .cons y (BRs.snoc t z)
theorem BRs.reverse {p w ρ φ h} : ∀ {l r}, BRs p w ρ φ h l r → BRs p w ρ φ h l.reverse r.reverse
  | _, _, .nil => .nil
  | _, _, .cons y t => by simp only [List.reverse_cons]; exact (BRs.reverse t).snoc y
theorem BRs.lookup {p w ρ φ h} {y : Str} {v : V} : ∀ {l r}, BRs p w ρ φ h l r → l.lookup y = some v → ∃ a, r.lookup y = some a ∧ VR p w ρ φ h v a
  | _, _, .nil, e => by simp at e
  | _, _, .cons (x := x) (l := l) (r := r) z t, e => by
    rw [lookup_put] at e ⊢
    by_cases q : y = x
    · rw [if_pos q] at e ⊢; cases e; exact ⟨_, rfl, z⟩
    · rw [if_neg q] at e ⊢; exact BRs.lookup t e
theorem BRs.fst {p w ρ φ h} : ∀ {l r}, BRs p w ρ φ h l r → l.map (·.1) = r.map (·.1)
  | _, _, .nil => rfl
  | _, _, .cons _ t => by simp [BRs.fst t]
theorem Rep.liveR {ρ φ s} (r : Rep Γ env ρ φ st s) {a : Addr} (ha : a ∈ ρ) : ∃ o, s.heap.get? a = some o := by
  obtain ⟨k, hk, e⟩ := List.mem_iff_getElem.mp ha
  have hk' : k < st.heap.length := r.len ▸ hk
  obtain ⟨b, e1, ho⟩ := r.heap k st.heap[k] (List.getElem?_eq_getElem hk')
  rw [List.getElem?_eq_getElem hk, e] at e1; cases e1
  generalize st.heap[k] = ob at ho
  cases ho with
  | list g1 _ => exact ⟨_, g1⟩
  | dict g1 => obtain ⟨_, o, _, g, _⟩ := g1; exact ⟨_, g⟩
  | cellN g1 _ => exact ⟨_, g1⟩
  | cellS g1 _ _ => exact ⟨_, g1⟩
  | tab g1 _ => exact ⟨_, g1⟩
theorem OR.up {p w ρ φ ρ' φ' h h' a o} (u : Up ρ φ ρ' φ' h h') (ha : ∀ o, h.get? a = some o → h'.get? a = some o) : OR p w ρ φ h a o → OR p w ρ' φ' h' a o
  | .list g1 g2 => .list (ha _ g1) (g2.up u)
  | .dict g1 => .dict (g1.at ha)
  | .cellN g1 g2 => .cellN (ha _ g1) g2
  | .cellS g1 g2 g3 => .cellS (ha _ g1) g2 (g3.up u)
  | .tab g1 g2 => .tab (ha _ g1) (g2.up u)

/-- a frame is laid: the state within -/
theorem Rep.enter {ρ φ s env' h₁ tk m loc} (r : Rep Γ env ρ φ st s) (hL : s.heap.get? env'.locals = Option.none) (hn : h₁.Ns env'.locals m) (hk : ∀ b o, s.heap.get? b = some o → h₁.get? b = some o)
    (hf : ∀ x v, loc.lookup x = some v → ∃ v', m x = some v' ∧ VR Γ.prog Γ.w ρ φ s.heap v v') :
    Rep Γ env' ρ (env'.locals :: φ) { loc := loc, cl := [], heap := st.heap, pin := st.pin } { s with heap := h₁, toks := tk } := by
  have u : Up ρ φ ρ (env'.locals :: φ) s.heap h₁ := ⟨List.prefix_rfl, fun b o e h1 h2 => ⟨hk b o e, h1, fun q => by
    rcases List.mem_cons.mp q with q | q
    · rw [q, hL] at e; cases e
    · exact h2 q⟩⟩
  refine ⟨(let ⟨h0, t, e⟩ := r.same; ⟨h₁, tk, by rw [e]⟩), fun b o e => hk b o (r.base b o e), r.len, r.nodup, r.freshR, fun a ha => ?_, fun a ha q => ?_, fun k o e => ?_, List.mem_cons_self, fun a ha => ?_, ⟨m, hn, fun x v e => ?_⟩, fun x k e => (nomatch e), r.pins⟩
  · rcases List.mem_cons.mp ha with q | q
    · cases e : Γ.B a with
      | none => rfl
      | some o => have := r.base a o e; rw [q, hL] at this; cases this
    · exact r.freshF a q
  · rcases List.mem_cons.mp q with q | q
    · obtain ⟨o, e⟩ := r.liveR ha; rw [q, hL] at e; cases e
    · exact r.disj a ha q
  · obtain ⟨a, e1, ho⟩ := r.heap k o e; exact ⟨a, e1, ho.up u fun o e => hk a o e⟩
  · rcases List.mem_cons.mp ha with q | q
    · obtain ⟨o, _, _, e, _⟩ := hn; rw [q]; exact ⟨o, e⟩
    · obtain ⟨o, e⟩ := r.live a q; exact ⟨o, hk a o e⟩
  · obtain ⟨v', e1, e2⟩ := hf x v e; exact ⟨v', e1, e2.up u⟩
/-- back in the frame -/
theorem Rep.leave {ρ ρ' φ s s' env' st'} (r : Rep Γ env ρ φ st s) (hL : s.heap.get? env'.locals = Option.none) (r' : Rep Γ env' ρ' (env'.locals :: φ) st' s') (x : Ext env'.locals ρ ρ' s.heap s'.heap) :
    Ext env.locals ρ ρ' s.heap s'.heap ∧ Up ρ' (env'.locals :: φ) ρ' φ s'.heap s'.heap ∧ Rep Γ env ρ' φ { loc := st.loc, cl := st.cl, heap := st'.heap, pin := st.pin } s' := by
  have kept : ∀ b o, s.heap.get? b = some o → b ∉ ρ → s'.heap.get? b = some o := fun b o e h1 => x.kept b o e h1 fun q => by rw [q, hL] at e; cases e
  have u0 : Up ρ' (env'.locals :: φ) ρ' φ s'.heap s'.heap := ⟨List.prefix_rfl, fun b o e h1 h2 => ⟨e, h1, fun q => h2 (List.mem_cons_of_mem _ q)⟩⟩
  have u : Up ρ φ ρ' φ s.heap s'.heap := ⟨x.pre, fun b o e h1 h2 => ⟨kept b o e h1, (fun hm => (x.new b hm).elim h1 fun q => by rw [e] at q; exact nomatch q), h2⟩⟩
  refine ⟨⟨x.pre, x.new, fun b o e h1 _ => kept b o e h1, x.live⟩, u0, r'.same, r'.base, r'.len, r'.nodup, r'.freshR, r.freshF, fun a ha q => r'.disj a ha (List.mem_cons_of_mem _ q), fun k o e => ?_, r.own, fun a ha => ?_, ?_, fun y k e => ?_, fun p hp => pre_get x.pre (r.pins p hp)⟩
  · obtain ⟨a, e1, ho⟩ := r'.heap k o e; exact ⟨a, e1, ho.up u0 fun o e => e⟩
  · obtain ⟨o, e⟩ := r.live a ha; exact x.live a o e
  · obtain ⟨m, hm, hf⟩ := r.frame
    refine ⟨m, ?_, fun y v e => let ⟨v', e1, e2⟩ := hf y v e; ⟨v', e1, e2.up u⟩⟩
    exact hm.at' fun o e => kept _ o e fun q => r.disj _ q r.own
  · obtain ⟨a, e1, e2⟩ := r.cells y k e; exact ⟨a, e1, pre_get x.pre e2⟩

noncomputable def RetQ (Q : V → St → Prop) : Fl → St → Prop
  | .ret w, st => Q w st
  | _, st => Q .none st
theorem AOk.deeper {A : Around} {e} (h : AOk (n + 1) A) : AOk n (A.deeper e) := ⟨h.handled, by have := h.depth; simp only [Around.deeper]; omega, by have := h.units; simp only [Around.deeper_units]; omega⟩
theorem AOk.le {A : Around} {m} (h : AOk n A) (hm : m ≤ n) : AOk m A := ⟨h.handled, by have := h.depth; omega, by have := h.units; omega⟩

/-- what the ground tells of a def -/
structure DefIs (Γ : Gam) (a : Addr) (fd : FuncData) : Prop where
  obj : ∃ o, Γ.B a = some o ∧ o.data = .func fd
  code : ∀ h, Γ.In h → h.CodeRec fd.code fd.qualname
  nolim : ∀ h, Γ.In h → h.NoLimit

theorem Cal.fn {a : Addr} {fd : FuncData} {body : List Stmt} {vs : List V} {bv : List (Str × V)} (D : DefIs Γ a fd) (hbody : fd.body = .stmts body)
    (hbind : ∀ s as ρ φ, Γ.In s.heap → VRs Γ.prog Γ.w ρ φ s.heap vs as → ∃ bs, BindsTo s fd ⟨as, []⟩ bs ∧ BRs Γ.prog Γ.w ρ φ s.heap bv bs)
    (hcell : (fd.scope.names.all fun x => x.2 != .cell) = true) (hloc : ((bv.map (·.1)).all fun x => fd.scope.names.lookup x == some .local) = true)
    (h : ∀ L, Exs Γ n (callEnv fd L a) { loc := bv.reverse, cl := [], heap := st.heap, pin := st.pin } body (fun f st' => RetQ (fun w st'' => Q w { loc := st.loc, cl := st.cl, heap := st''.heap, pin := st.pin }) f st'))
    (hco : fd.scope.isCoroutine = false := by rfl) (hgen : fd.scope.isGenerator = false := by rfl) (hk : fd.scope.kind = .function := by rfl) :
    Cal Γ (n + 1) env st (.val (.ref a)) vs Q := fun A s ρ φ fv as hA r hf hv => by
  obtain rfl := hf.val_inv
  obtain ⟨o, hB, hd⟩ := D.obj
  obtain ⟨bs, hb, hbr⟩ := hbind s as ρ φ r.base hv
  have hL : s.heap.get? s.heap.objs.size = Option.none := by
    cases e : s.heap.get? s.heap.objs.size with
    | none => rfl
    | some o => exact absurd (Heap.lt_size e) (Nat.lt_irrefl _)
  refine wpAny_call (codeAny_call_def (fd := fd) (body := body) (binds := bs) (by have := hA.depth; unfold recursionLimit; omega) (r.base _ _ hB) hd (D.nolim _ r.base) (D.code _ r.base) hbody hb (fun x hx => by simpa using List.all_eq_true.mp hcell x hx)
    (fun x hx => by simpa using List.all_eq_true.mp hloc x.1 (by rw [hbr.fst]; exact List.mem_map_of_mem hx)) (fun h₁ hn hk1 => ?_) hco hgen hk)
  have r1 := r.enter (env' := callEnv fd s.heap.objs.size a) (tk := s.toks + bs.length) hL hn hk1 (loc := bv.reverse) (fun x v e => hbr.reverse.lookup e)
  refine wpAny_mono (h s.heap.objs.size _ _ ρ _ hA.deeper r1) (fun f s' ⟨ρ', fl, st', x, r', vf, q⟩ => ?_) fun _ _ z => z.elim
  have x0 : Ext (callEnv fd s.heap.objs.size a).locals ρ ρ' s.heap s'.heap := (Ext.grow hk1).trans x
  obtain ⟨y1, y2, y3⟩ := r.leave hL r' x0
  cases fl with
  | next => cases vf; exact Post.mk y1 y3 .none q
  | brk => cases vf; exact Post.mk y1 y3 .none q
  | cont => cases vf; exact Post.mk y1 y3 .none q
  | ret w => obtain ⟨b, rfl, hw⟩ := vf; exact Post.mk y1 y3 (hw.up y2) q

end

end

section
open PySem PySem.Calls PyProof.Rows PySem.W
section
variable {Γ : Gam} {n : Nat} {env : Env} {st : St}

theorem Up.grow {ρ φ : List Addr} {h h' : Heap} (k : ∀ b o, h.get? b = some o → h'.get? b = some o) : Up ρ φ ρ φ h h' := ⟨List.prefix_rfl, fun b o e h1 h2 => ⟨k b o e, h1, h2⟩⟩
theorem Rep.grow {ρ φ s h' tk} (r : Rep Γ env ρ φ st s) (k : ∀ b o, s.heap.get? b = some o → h'.get? b = some o) : Rep Γ env ρ φ st { s with heap := h', toks := tk } :=
  ⟨let ⟨h0, t, e⟩ := r.same; ⟨h', tk, by rw [e]⟩, fun b o e => k b o (r.base b o e), r.len, r.nodup, r.freshR, r.freshF, r.disj,
    fun j o e => let ⟨a, e1, ho⟩ := r.heap j o e; ⟨a, e1, ho.up (Up.grow k) fun o e => k a o e⟩, r.own, fun b hb => let ⟨o, e⟩ := r.live b hb; ⟨o, k b o e⟩,
    let ⟨m, hm, hf⟩ := r.frame; ⟨m, hm.keeps k, fun x v e => let ⟨v', e1, e2⟩ := hf x v e; ⟨v', e1, e2.up (Up.grow k)⟩⟩, r.cells, r.pins⟩
theorem Rep.fresh {ρ φ s a} (r : Rep Γ env ρ φ st s) (ha : s.heap.get? a = none) : a ∉ ρ ∧ a ∉ φ :=
  ⟨fun q => let ⟨o, e⟩ := r.liveR q; (by rw [ha] at e; cases e), fun q => let ⟨o, e⟩ := r.live a q; (by rw [ha] at e; cases e)⟩
theorem size_none (h : Heap) : h.get? h.objs.size = none := by
  cases e : h.get? h.objs.size with
  | none => rfl
  | some o => exact absurd (Heap.lt_size e) (Nat.lt_irrefl _)
/-- a new object comes onto the list -/
theorem Rep.add {ρ φ s h' tk a o} (r : Rep Γ env ρ φ st s) (ha : s.heap.get? a = none) (k : ∀ b o, s.heap.get? b = some o → h'.get? b = some o) (ho : OR Γ.prog Γ.w (ρ ++ [a]) φ h' a o) :
    Ext env.locals ρ (ρ ++ [a]) s.heap h' ∧ Rep Γ env (ρ ++ [a]) φ { st with heap := st.heap ++ [o] } { s with heap := h', toks := tk } := by
  have hf := r.fresh ha
  have u : Up ρ φ (ρ ++ [a]) φ s.heap h' := ⟨List.prefix_append .., fun b o e h1 h2 => ⟨k b o e, (fun q => (List.mem_append.mp q).elim h1 fun q => by rw [List.mem_singleton.mp q, ha] at e; cases e), h2⟩⟩
  refine ⟨Ext.add ha k, (let ⟨h0, t, e⟩ := r.same; ⟨h', tk, by rw [e]⟩), fun b o e => k b o (r.base b o e), by simp [r.len], ?_, fun b hb => ?_, r.freshF, fun b hb => ?_, fun j o' e => ?_, r.own, fun b hb => let ⟨o, e⟩ := r.live b hb; ⟨o, k b o e⟩,
    (let ⟨m, hm, hf⟩ := r.frame; ⟨m, hm.keeps k, fun x v e => let ⟨v', e1, e2⟩ := hf x v e; ⟨v', e1, e2.up u⟩⟩), fun x j e => let ⟨b, e1, e2⟩ := r.cells x j e; ⟨b, e1, pre_get (List.prefix_append ..) e2⟩, fun p hp => pre_get (List.prefix_append ..) (r.pins p hp)⟩
  · exact List.nodup_append.mpr ⟨r.nodup, by simp, fun x hx y hy => by rw [List.mem_singleton.mp hy]; exact fun q => hf.1 (q ▸ hx)⟩
  · rcases List.mem_append.mp hb with q | q
    · exact r.freshR b q
    · rw [List.mem_singleton.mp q]
      cases e : Γ.B a with
      | none => rfl
      | some o => have := r.base a o e; rw [ha] at this; cases this
  · rcases List.mem_append.mp hb with q | q
    · exact r.disj b q
    · rw [List.mem_singleton.mp q]; exact hf.2
  · rw [List.getElem?_append] at e
    by_cases q : j < st.heap.length
    · rw [if_pos q] at e
      obtain ⟨b, e1, ho'⟩ := r.heap j o' e
      exact ⟨b, pre_get (List.prefix_append ..) e1, ho'.up u fun o e => k b o e⟩
    · rw [if_neg q] at e
      have hj : j - st.heap.length = 0 := by
        cases hh : j - st.heap.length with
        | zero => rfl
        | succ i => rw [hh] at e; simp at e
      rw [hj] at e; simp at e; subst e
      have : j = ρ.length := by rw [r.len]; omega
      subst this
      exact ⟨a, by simp, ho⟩

-- tests
theorem Tst.not {e pos} {Q : Bool → St → Prop} (h : Tst Γ n env st e fun c st1 => Q (!c) st1) : Tst Γ n env st (.UnaryOp .Not e pos) Q := fun A s ρ φ hA r =>
  isTrue_not (J.use h hA r fun a s1 ρ1 c st1 x1 r1 v1 q1 => by cases v1; exact Post.mk x1 r1 rfl q1)
theorem Tst.and {e es pos} {Q : Bool → St → Prop} (h : Tst Γ n env st e fun c st1 => if c = true then Tst Γ n env st1 (.BoolOp .And es pos) Q else Q false st1) : Tst Γ n env st (.BoolOp .And (e :: es) pos) Q := fun A s ρ φ hA r =>
  isTrue_and (J.use h hA r fun a s1 ρ1 c st1 x1 r1 v1 q1 => by
    cases v1
    cases a
    · exact Post.mk (R := fun _ _ _ (b a : Bool) => a = b) x1 r1 rfl (by simpa using q1)
    · exact wpAny_mono ((show Tst Γ n env st1 (.BoolOp .And es pos) Q by simpa using q1) A s1 ρ1 φ hA r1) (fun _ _ p => p.trans x1) fun _ _ z => z)
theorem Tst.andNil {pos} {Q : Bool → St → Prop} (h : Q true st) : Tst Γ n env st (.BoolOp .And [] pos) Q := fun A s ρ φ hA r => isTrue_and_nil (Post.here r rfl h)
theorem Tst.or {e es pos} {Q : Bool → St → Prop} (h : Tst Γ n env st e fun c st1 => if c = true then Q true st1 else Tst Γ n env st1 (.BoolOp .Or es pos) Q) : Tst Γ n env st (.BoolOp .Or (e :: es) pos) Q := fun A s ρ φ hA r =>
  isTrue_or (J.use h hA r fun a s1 ρ1 c st1 x1 r1 v1 q1 => by
    cases v1
    cases a
    · exact wpAny_mono ((show Tst Γ n env st1 (.BoolOp .Or es pos) Q by simpa using q1) A s1 ρ1 φ hA r1) (fun _ _ p => p.trans x1) fun _ _ z => z
    · exact Post.mk (R := fun _ _ _ (b a : Bool) => a = b) x1 r1 rfl (by simpa using q1))
theorem Tst.orNil {pos} {Q : Bool → St → Prop} (h : Q false st) : Tst Γ n env st (.BoolOp .Or [] pos) Q := fun A s ρ φ hA r => isTrue_or_nil (Post.here r rfl h)
/-- a test that is a call (or a name): its value is a bool -/
theorem Tst.val {e} {Q : Bool → St → Prop} (he : ∀ whole, isTrue e env whole = (do let v ← whole; standAt e.pos; holding [v] (truthy v))) (h : Ev Γ n env st e fun v st1 => ∃ b, v = .bool b ∧ Q b st1) : Tst Γ n env st e Q := fun A s ρ φ hA r =>
  isTrue_plain (J.use h hA r fun a s1 ρ1 c st1 x1 r1 v1 q1 => by
    obtain ⟨b, rfl, q⟩ := q1
    cases v1
    exact wpAny_truthy_bool (Post.mk x1 r1 rfl q)) (he _)
theorem Tst.chain {l op1 op2 e1 e2 pos} {Q : Bool → St → Prop} (hm : lastMarks [op1, op2] [e1, e2] = false)
    (h : Ev Γ n env st l fun u st1 => Ev Γ n env st1 e1 fun v st2 => Op2 Γ n env st2 (compareOp op1) u v fun c st3 => ∃ b, c = .bool b ∧
      if b = true then Ev Γ n env st3 e2 fun w st4 => Op2 Γ n env st4 (compareOp op2) v w fun d st5 => ∃ b', d = .bool b' ∧ Q b' st5 else Q false st3) :
    Tst Γ n env st (.Compare l [op1, op2] [e1, e2] pos) Q := fun A s ρ φ hA r => by
  refine isTrue_chain (J.use h hA r fun a s1 ρ1 u st1 x1 r1 v1 q1 => ?_) hm
  show wpAny _ _ (testChain pos a [op1, op2] [eval e1 env, eval e2 env]) _ _ _
  show wpAny _ A (do {
    let rv ← holding [a] (eval e1 env);
    standAt pos;
    let c ← holding [a, rv] (compareOp op1 a rv);
    release [a, rv] [c];
    if ← holding [c, rv] (truthy c) then testChain pos rv [op2] [eval e2 env] else pure false }) _ _ s1
  refine wpAny_bind (wpAny_holding (J.use q1 hA r1 fun b s2 ρ2 v st2 x2 r2 v2 q2 => wpAny_bind (wpAny_standAt (wpAny_bind (wpAny_holding (Op2.use q2 hA r2 (v1.up (x2.up r2.own)) v2 fun c s3 ρ3 cv st3 x3 r3 v3 q3 => wpAny_bind (wpAny_release' (wpAny_bind (wpAny_holding ?_)))))))))
  obtain ⟨bo, rfl, q3⟩ := q3
  cases v3
  refine wpAny_truthy_bool ?_
  cases bo with
  | false => exact wpAny_pure (Post.mk ((x1.trans x2).trans x3) r3 rfl (by simpa using q3))
  | true =>
    simp only [if_true] at q3 ⊢
    show wpAny _ A (do {
      let rv ← holding [b] (eval e2 env);
      standAt pos;
      let c ← operate [b, rv] (compareOp op2 b rv);
      holding [c] (truthy c) }) _ _ s3
    refine wpAny_bind (wpAny_holding (J.use q3 hA r3 fun d s4 ρ4 w st4 x4 r4 v4 q4 => wpAny_bind (wpAny_standAt (wpAny_bind (wpAny_operating (Op2.use q4 hA r4 ((v2.up (x3.up r3.own)).up (x4.up r4.own)) v4 fun c s5 ρ5 cv st5 x5 r5 v5 q5 => ?_))))))
    obtain ⟨bo, rfl, q5⟩ := q5
    cases v5
    exact wpAny_holding (wpAny_truthy_bool (Post.mk ((((x1.trans x2).trans x3).trans x4).trans x5) r5 rfl q5))

theorem Ev.ifexp {t b o pos} {Q : V → St → Prop} (h : Tst Γ n env st t fun c st1 => if c = true then Ev Γ n env st1 b Q else Ev Γ n env st1 o Q) : Ev Γ n env st (.IfExp t b o pos) Q := fun A s ρ φ hA r =>
  IfExp_ (J.use h hA r fun a s1 ρ1 c st1 x1 r1 v1 q1 => by
    cases v1
    cases a
    · exact wpAny_mono ((show Ev Γ n env st1 o Q by simpa using q1) A s1 ρ1 φ hA r1) (fun _ _ p => p.trans x1) fun _ _ z => z
    · exact wpAny_mono ((show Ev Γ n env st1 b Q by simpa using q1) A s1 ρ1 φ hA r1) (fun _ _ p => p.trans x1) fun _ _ z => z)
/-- two bools in a row, by and -/
theorem Ev.and2 {e1 e2 pos} {Q : V → St → Prop} (h : Ev Γ n env st e1 fun v st1 => ∃ b, v = .bool b ∧ if b = true then Ev Γ n env st1 e2 Q else Q (.bool false) st1) : Ev Γ n env st (.BoolOp .And [e1, e2] pos) Q := fun A s ρ φ hA r =>
  BoolOp_and (J.use h hA r fun a s1 ρ1 c st1 x1 r1 v1 q1 => by
    obtain ⟨b, rfl, q⟩ := q1
    cases v1
    refine wpAny_truthy_bool ?_
    cases b
    · exact Post.mk x1 r1 (.bool _) (by simpa using q)
    · exact BoolOp_one (wpAny_mono ((show Ev Γ n env st1 e2 Q by simpa using q) A s1 ρ1 φ hA r1) (fun _ _ p => p.trans x1) fun _ _ z => z))

-- displays
theorem Ev.listF {es pos} {Q : V → St → Prop} (h : Arg Γ n env st pos es fun vs st1 => vs.length ≤ 1000 ∧ Q (.list vs) st1) : Ev Γ n env st (.List es pos) Q := fun A s ρ φ hA r =>
  List_ (J.use h hA r fun as s1 ρ1 vs st1 x1 r1 v1 q1 => wpAny_newObj_type (by
    have k : ∀ b o, s1.heap.get? b = some o → (s1.heap.push (listOf as.toArray 0)).get? b = some o := fun b o e => Heap.get?_push_of_some _ e
    have hf := r1.fresh (size_none s1.heap)
    exact Post.mk (x1.trans (Ext.grow k)) (r1.grow (tk := s1.toks) k) (.list (n := 0) (Heap.get?_push_size _ rfl) hf.1 hf.2 (v1.up (Up.grow k))) q1.2)
    (by show as.toArray.size ≤ sizeLine; rw [List.size_toArray, ← v1.length, sizeLine_eq]; omega))
theorem Ev.listM {es pos} {Q : V → St → Prop} (h : Arg Γ n env st pos es fun vs st1 => vs.length ≤ 1000 ∧ Q (.obj st1.heap.length) { st1 with heap := st1.heap ++ [.list vs] }) : Ev Γ n env st (.List es pos) Q := fun A s ρ φ hA r =>
  List_ (J.use h hA r fun as s1 ρ1 vs st1 x1 r1 v1 q1 => wpAny_newObj_type (by
    have k : ∀ b o, s1.heap.get? b = some o → (s1.heap.push (listOf as.toArray 0)).get? b = some o := fun b o e => Heap.get?_push_of_some _ e
    have hf := r1.fresh (size_none s1.heap)
    have u : Up ρ1 φ (ρ1 ++ [s1.heap.objs.size]) φ s1.heap (s1.heap.push (listOf as.toArray 0)) := (Ext.add (L := env.locals) (size_none s1.heap) k).up r1.own
    obtain ⟨y1, y2⟩ := r1.add (tk := s1.toks) (size_none s1.heap) k (.list (n := 0) (Heap.get?_push_size _ rfl) (v1.up u))
    exact Post.mk (x1.trans y1) y2 (.obj (by simp [r1.len])) q1.2)
    (by show as.toArray.size ≤ sizeLine; rw [List.size_toArray, ← v1.length, sizeLine_eq]; omega))
theorem Ev.tup {es k pos} {Q : V → St → Prop} (h : Arg Γ n env st pos es fun vs st1 => vs.length ≤ 1000 ∧ Q (.tup vs) st1) : Ev Γ n env st (.Tuple es k pos) Q := fun A s ρ φ hA r =>
  Tuple_ (J.use h hA r fun as s1 ρ1 vs st1 x1 r1 v1 q1 => wpAny_newObj_type (by
    have k : ∀ b o, s1.heap.get? b = some o → (s1.heap.push (tupleOf as.toArray)).get? b = some o := fun b o e => Heap.get?_push_of_some _ e
    have hf := r1.fresh (size_none s1.heap)
    exact Post.mk (x1.trans (Ext.grow k)) (r1.grow (tk := s1.toks) k) (.tup (Heap.get?_push_size _ rfl) hf.1 hf.2 (v1.up (Up.grow k))) q1.2)
    (by show as.toArray.size ≤ sizeLine; rw [List.size_toArray, ← v1.length, sizeLine_eq]; omega))

-- lists
noncomputable def St.lst (st : St) (v : V) (vs : List V) : Prop := v = .list vs ∨ ∃ k, v = .obj k ∧ st.heap[k]? = some (.list vs)
theorem Rep.lst {ρ φ s v vs a} (r : Rep Γ env ρ φ st s) (hl : st.lst v vs) (hv : VR Γ.prog Γ.w ρ φ s.heap v a) : ∃ b its m, a = .ref b ∧ s.heap.get? b = some (listOf its m) ∧ VRs Γ.prog Γ.w ρ φ s.heap vs its.toList := by
  rcases hl with rfl | ⟨k, rfl, hk⟩
  · cases hv with | list e _ _ g => exact ⟨_, _, _, rfl, e, g⟩
  · cases hv with
    | obj e =>
      obtain ⟨b, e1, ho⟩ := r.heap k _ hk
      rw [e] at e1; cases e1
      cases ho with | list g1 g2 => exact ⟨_, _, _, rfl, g1, g2⟩
theorem isList_of {h : Heap} {a its n} (e : h.get? a = some (listOf its n)) : h.IsList a its := ⟨_, e, rfl, n, rfl⟩

theorem Ev.sub {o i pos} {Q : V → St → Prop} (h : Ev Γ n env st o fun u st1 => Ev Γ n env st1 i fun v st2 => Op2 Γ n env st2 (subscriptTail o i) u v Q) : Ev Γ n env st (.Subscript o i pos) Q := fun A s ρ φ hA r =>
  Subscript_ (J.use h hA r fun a s1 ρ1 u st1 x1 r1 v1 q1 => J.use q1 hA r1 fun b s2 ρ2 v st2 x2 r2 v2 q2 =>
    Op2.use q2 hA r2 (v1.up (x2.up r2.own)) v2 fun c s3 ρ3 w st3 x3 r3 v3 q3 => Post.mk ((x1.trans x2).trans x3) r3 v3 q3)
theorem Op2.itemL {o i v vs k x} {Q : V → St → Prop} (hs : ∀ a b, subscripted i false a b = operate [a, b] (getItem a b)) (hl : st.lst v vs) (h0 : 0 ≤ k) (hx : vs[k.toNat]? = some x) (hk : k < 2 ^ 63) (h : Q x st) : Op2 Γ n env st (subscriptTail o i) v (.int k) Q :=
  fun A s ρ φ a b hA r ha hb => by
    cases hb
    obtain ⟨b, its, m, rfl, e, g⟩ := r.lst hl ha
    obtain ⟨y, e1, hy⟩ := g.get hx
    exact tail_any (isList_of e).typeIs slot_list_getitem.lookup (wpAny_getItem_list (x := y) (isList_of e) h0 hk (by simpa using e1) (Post.here r hy h)) (hs _ _)
theorem Op2.itemT {o i vs k x} {Q : V → St → Prop} (hs : ∀ a b, subscripted i false a b = operate [a, b] (getItem a b)) (h0 : 0 ≤ k) (hx : vs[k.toNat]? = some x) (hk : k < 2 ^ 63) (h : Q x st) : Op2 Γ n env st (subscriptTail o i) (.tup vs) (.int k) Q :=
  fun A s ρ φ a b hA r ha hb => by
    cases hb
    cases ha with
    | @tup _ b its e _ _ g =>
      obtain ⟨y, e1, hy⟩ := g.get hx
      have ht : IsTup s.heap _ _ := ⟨_, e, rfl, 0, rfl⟩
      have hlt : k.toNat < its.size := by have := (List.getElem?_eq_some_iff.mp e1).1; simpa using this
      exact tail_any ht.typeIs slot_tuple_getitem.lookup (getItem_tuple (j := k.toNat) ht (by omega) hk (by unfold seqIndex?; simp only [if_neg (show ¬ k < 0 by omega)]; rw [if_pos]; simp only [Bool.and_eq_true, decide_eq_true_eq]; omega) (by simpa using e1) (Post.here r hy h)) (hs _ _)

end

end

section
open PySem PySem.Calls PyProof.Rows PySem.W

/-- stores in a row -/
noncomputable def StoN (Γ : Gam) (n : Nat) (env : Env) : List Str → List V → St → (St → Prop) → Prop
  | x :: xs, v :: vs, st, P => Sto Γ n env st x v fun st1 => StoN Γ n env xs vs st1 P
  | _, _, st, P => P st

section
variable {Γ : Gam} {n : Nat} {env : Env} {st : St}

theorem assignEach_names (env : Env) : ∀ (names : List (Str × Pos)), assignEach (names.map fun p => Expr.Name p.1 p.2) env = names.map fun p => (false, assign (Expr.Name p.1 p.2) env)
  | [] => rfl
  | p :: r => by
    show (false, assign (Expr.Name p.1 p.2) env) :: assignEach (r.map fun p => Expr.Name p.1 p.2) env = _
    rw [assignEach_names env r]; rfl

theorem StoN.run {ρ φ : List Addr} {P : St → Prop} (names : List (Str × Pos)) : ∀ (vs : List V) (as : List Value) (st : St) (A : Around) (s : Shared), vs.length = names.length → AOk n A → Rep Γ env ρ φ st s → VRs Γ.prog Γ.w ρ φ s.heap vs as → StoN Γ n env (names.map (·.1)) vs st P →
    wpAny (model Γ.prog Γ.w) A (assignInOrder (names.map fun p => assign (Expr.Name p.1 p.2) env) as) (fun _ s' => ∃ st', Ext env.locals ρ ρ s.heap s'.heap ∧ Rep Γ env ρ φ st' s' ∧ P st') (fun _ _ => False) s := by
  induction names with
  | nil =>
    intro vs as st A s hl hA r hv h
    have : vs = [] := by simpa using hl
    subst this
    cases hv
    exact wpAny_pure ⟨st, Ext.refl .., r, h⟩
  | cons p names ih =>
    intro vs as st A s hl hA r hv h
    cases hv with
    | nil => simp at hl
    | @cons v a vs as h1 h2 =>
      show wpAny _ A (do holding as (assign (Expr.Name p.1 p.2) env a); assignInOrder (names.map fun p => assign (Expr.Name p.1 p.2) env) as) _ _ s
      have h' : Sto Γ n env st p.1 v fun st1 => StoN Γ n env (names.map (·.1)) vs st1 P := h
      refine wpAny_bind (wpAny_holding (wpAny_assign_Name (wpAny_mono (h' A s ρ φ a hA r h1) (fun _ s1 ⟨st1, x1, r1, q1⟩ => ?_) fun _ _ z => z)))
      exact wpAny_mono (ih vs as st1 A s1 (by simpa using hl) hA r1 (h2.up (x1.up r1.own)) q1) (fun _ s2 ⟨st2, x2, r2, q2⟩ => ⟨st2, x1.trans x2, r2, q2⟩) fun _ _ z => z
theorem Ex.assignT {elts k tp e pos} {Q : Fl → St → Prop} (names : List (Str × Pos)) (he : elts = names.map fun p => Expr.Name p.1 p.2)
    (hs : swapsWithSole [.Tuple elts k tp] e pos.line env = pure false) (hw : swappedStores [.Tuple elts k tp] e env = pure none)
    (h : Ev Γ n env st e fun v st1 => ∃ vs, v = .tup vs ∧ vs.length = names.length ∧ StoN Γ n env (names.map (·.1)) vs st1 (Q .next)) :
    Ex Γ n env st (.Assign [.Tuple elts k tp] e pos) Q := fun A s ρ φ hA r => by
  refine Assign_Tuple (J.use h hA r fun a s1 ρ1 v st1 x1 r1 v1 q1 => ?_) hs hw
  obtain ⟨vs, rfl, hl, q1⟩ := q1
  cases v1 with
  | @tup _ b its e1 f1 f2 g =>
    subst he
    have ht : s1.heap.IsTuple b its := ⟨_, e1, rfl, 0, rfl⟩
    refine wpAny_assign_Tuple hA.handled ht (by rw [assignEach_names, List.length_map, ← hl, g.length]; simp) (by rw [assignEach_names]; simp) fun h' hx => ?_
    have k1 : ∀ b o, s1.heap.get? b = some o → h'.get? b = some o := fun b o e => hx b o (Nat.ne_of_lt (Heap.lt_size e)) e
    have r2 := r1.grow (tk := s1.toks) k1
    rw [assignEach_names, List.map_map]
    refine wpAny_mono (StoN.run names vs its.toList st1 A { s1 with heap := h' } hl hA r2 (g.up (Up.grow k1)) q1) (fun _ s3 ⟨st3, x3, r3, q3⟩ => ?_) fun _ _ z => z
    exact Post.mk ((x1.trans (Ext.grow k1)).trans x3) r3 (b := Fl.next) rfl q3
theorem Ex.expr {e pos} {Q : Fl → St → Prop} (hi : interactive env = false) (hs : swapsWith e none pos.line env = pure false) (h : Ev Γ n env st e fun _ st1 => Q .next st1) : Ex Γ n env st (.Expr e pos) Q := fun A s ρ φ hA r =>
  wpAny_Expr_any (J.use h hA r fun a s1 ρ1 v st1 x1 r1 v1 q1 => Post.mk x1 r1 (b := Fl.next) rfl q1) hi hs

/-- an operation upon three values, giving none -/
noncomputable def Set3 (Γ : Gam) (n : Nat) (env : Env) (st : St) (o i v : V) (P : St → Prop) : Prop :=
  ∀ A s ρ φ a b c, AOk n A → Rep Γ env ρ φ st s → VR Γ.prog Γ.w ρ φ s.heap o a → VR Γ.prog Γ.w ρ φ s.heap i b → VR Γ.prog Γ.w ρ φ s.heap v c →
    wpAny (model Γ.prog Γ.w) A (setItem a b c) (fun _ s' => ∃ st', Ext env.locals ρ ρ s.heap s'.heap ∧ Rep Γ env ρ φ st' s' ∧ P st') (fun _ _ => False) s
theorem Ex.assignS {o i p e pos} {Q : Fl → St → Prop} (hs : swapsWith e (some (.Subscript o i p)) pos.line env = pure false)
    (h : Ev Γ n env st e fun v st1 => Ev Γ n env st1 o fun ov st2 => Ev Γ n env st2 i fun iv st3 => Set3 Γ n env st3 ov iv v (Q .next)) : Ex Γ n env st (.Assign [.Subscript o i p] e pos) Q := fun A s ρ φ hA r =>
  wpAny_Assign_Subscript (J.use h hA r fun a s1 ρ1 v st1 x1 r1 v1 q1 => J.use q1 hA r1 fun b s2 ρ2 ov st2 x2 r2 v2 q2 => J.use q2 hA r2 fun c s3 ρ3 iv st3 x3 r3 v3 q3 =>
    wpAny_mono (q3 A s3 ρ3 φ b c a hA r3 (v2.up (x3.up r3.own)) v3 ((v1.up (x2.up r2.own)).up (x3.up r3.own))) (fun _ s4 ⟨st4, x4, r4, q4⟩ => Post.mk (((x1.trans x2).trans x3).trans x4) r4 (b := Fl.next) rfl q4) fun _ _ z => z) hs
theorem VRs.set {p w ρ φ h} : ∀ {vs as} {i : Nat} {v a}, VRs p w ρ φ h vs as → VR p w ρ φ h v a → VRs p w ρ φ h (vs.set i v) (as.set i a)
  | _, _, _, _, _, .nil, _ => .nil
  | _, _, 0, _, _, .cons _ r, y => .cons y r
  | _, _, i + 1, _, _, .cons x r, y => .cons x (VRs.set r y)
theorem VRs.eraseIdx {p w ρ φ h} : ∀ {vs as}, VRs p w ρ φ h vs as → ∀ i, VRs p w ρ φ h (vs.eraseIdx i) (as.eraseIdx i)
  | _, _, .nil, i => by simp; exact .nil
  | _, _, .cons x r, 0 => by simpa using r
  | _, _, .cons x r, i + 1 => by simp; exact .cons x (VRs.eraseIdx r i)
/-- a change of a list that stands in the state -/
theorem Rep.setL {ρ φ s k b vs vs' its its' m m'} (r : Rep Γ env ρ φ st s) (ho : st.heap[k]? = some (.list vs)) (hk : ρ[k]? = some b) (e : s.heap.get? b = some (listOf its m)) (f : Array Value → Array Value)
    (hf : (Obj.mapSeq f (listOf its m)) = listOf its' m') (g : VRs Γ.prog Γ.w ρ φ s.heap vs' its'.toList) : Ext env.locals ρ ρ s.heap (s.heap.update b (Obj.mapSeq f)) ∧ Rep Γ env ρ φ (st.upd k (.list vs')) { s with heap := s.heap.update b (Obj.mapSeq f) } := by
  have hm : b ∈ ρ := List.mem_of_getElem? hk
  have hs : Heap.SameBut b s.heap (s.heap.update b (Obj.mapSeq f)) := Heap.SameBut.update ..
  have e' : (s.heap.update b (Obj.mapSeq f)).get? b = some (listOf its' m') := by rw [Heap.get?_update_self _ e (by rw [hf]; rfl), hf]
  exact r.set (tk := s.toks) hk (List.getElem?_eq_some_iff.mp ho).1 hs (Up.at hm hs) (.list e' (g.up (Up.at hm hs))) ⟨_, e'⟩
theorem Set3.list {k j vs v} {P : St → Prop} (ho : st.heap[k]? = some (.list vs)) (h0 : 0 ≤ j) (hj : j < vs.length) (hf : j < 2 ^ 63) (h : P (st.upd k (.list (vs.set j.toNat v)))) : Set3 Γ n env st (.obj k) (.int j) v P :=
  fun A s ρ φ a b c hA r ha hb hc => by
    cases ha with
    | obj ea =>
      cases hb
      obtain ⟨b, e1, ho'⟩ := r.heap k _ ho
      rw [ea] at e1; cases e1
      cases ho' with
      | @list _ its m g1 g2 =>
        have hl := g2.length
        obtain ⟨y1, y2⟩ := r.setL ho ea g1 (·.setIfInBounds j.toNat c) (its' := its.setIfInBounds j.toNat c) (m' := m) (vs' := vs.set j.toNat v) (by simp [Obj.mapSeq]) (by simpa using g2.set hc)
        exact ki_setAt g1 h0 hf (by rw [hl] at hj; simpa using hj) ⟨_, y1, y2, h⟩
theorem Set3.dict {k j i es} {P : St → Prop} (ho : st.heap[k]? = some (.dict es)) (hl : es.length ≤ 1000) (h : P (st.upd k (.dict (kdfPut es j i)))) : Set3 Γ n env st (.obj k) (.int j) (.int i) P :=
  fun A s ρ φ a b c hA r ha hb hc => by
    cases ha with
    | @obj _ a0 ea =>
      cases hb
      cases hc with
      | int _ t2 =>
        obtain ⟨b, e1, ho'⟩ := r.heap k _ ho
        rw [ea] at e1; cases e1
        cases ho' with
        | dict g =>
          obtain ⟨q, o, kvs, e, hd, hf⟩ := g
          have hm : a0 ∈ ρ := List.mem_of_getElem? ea
          refine wpAny_setItem_pairs (hsz := by rw [← hf.length, kdfD_length, sizeLine_eq]; omega) (intKind_is Γ.prog Γ.w j _) (Heap.dictOf_iff.mpr ⟨o, e, hd⟩) fun h' hmm hs => ?_
          obtain ⟨o', ho', hd'⟩ := Heap.dictOf_iff.mp hmm
          have hf' := hf.stored PyProof.V.same_int j (PyProof.V.Flat.int i t2)
          rw [kdfD_put] at hf'
          obtain ⟨y1, y2⟩ := r.set (tk := s.toks + 1) (o := .dict (kdfPut es j i)) ea (List.getElem?_eq_some_iff.mp ho).1 hs (Up.at hm hs) (.dict ⟨q, o', _, ho', hd', hf'⟩) ⟨_, ho'⟩
          exact ⟨_, y1, y2, h⟩
/-- del xs[i] -/
theorem Ex.delS {o i p pos} {Q : Fl → St → Prop} (h : Ev Γ n env st o fun ov st1 => Ev Γ n env st1 i fun iv st2 => ∃ k j vs, ov = .obj k ∧ iv = .int j ∧ st2.heap[k]? = some (.list vs) ∧ 0 ≤ j ∧ j < vs.length ∧ vs.length ≤ 1000 ∧ Q .next (st2.upd k (.list (vs.eraseIdx j.toNat)))) :
    Ex Γ n env st (.Delete [.Subscript o i p] pos) Q := fun A s ρ φ hA r => by
  refine wpAny_Delete (wpAny_deleteEach_cons (wpAny_delete_Subscript (J.use h hA r fun a s1 ρ1 ov st1 x1 r1 v1 q1 => J.use q1 hA r1 fun b s2 ρ2 iv st2 x2 r2 v2 q2 => ?_)))
  obtain ⟨k, j, vs, rfl, rfl, ho, h0, hj, hle, q⟩ := q2
  have v1' := v1.up (x2.up r2.own)
  cases v1' with
  | obj ea =>
    cases v2
    obtain ⟨b, e1, ho'⟩ := r2.heap k _ ho
    rw [ea] at e1; cases e1
    cases ho' with
    | @list _ its m g1 g2 =>
      have hl := g2.length
      have hsz : its.size = vs.length := by rw [hl]; simp
      have gl : VRs Γ.prog Γ.w ρ2 φ s2.heap (vs.eraseIdx j.toNat) (its.eraseIdxIfInBounds j.toNat).toList := by
        have : (its.eraseIdxIfInBounds j.toNat).toList = its.toList.eraseIdx j.toNat := by
          rw [Array.eraseIdxIfInBounds]; split
          · simp
          · rename_i hh; exact absurd (by omega) hh
        rw [this]
        exact g2.eraseIdx _
      have hmap : Obj.mapSeq (fun xs => xs.eraseIdxIfInBounds j.toNat) (listOf its m) = listOf (its.eraseIdxIfInBounds j.toNat) (m + 1) := by
        have h1 : (its.eraseIdxIfInBounds j.toNat).size ≠ its.size := by
          rw [Array.eraseIdxIfInBounds, dif_pos (by omega)]; simp; omega
        simp [Obj.mapSeq, h1]
      obtain ⟨y1, y2⟩ := r2.setL ho ea g1 (fun xs => xs.eraseIdxIfInBounds j.toNat) hmap gl
      refine P.delItem_list g1 (by simp [Builtin.List.listFitsIndex]; omega) (k := j.toNat) (by unfold seqIndex?; simp only [if_neg (show ¬ j < 0 by omega)]; rw [if_pos]; simp only [Bool.and_eq_true, decide_eq_true_eq]; omega) ?_ (by rw [sizeLine_eq]; omega)
      exact wpAny_deleteEach_nil (Post.mk ((x1.trans x2).trans y1) y2 (b := Fl.next) rfl q)
theorem Ex.augI {x p e pos i} {Q : Fl → St → Prop} (hv : st.loc.lookup x = some (.int i)) (hk : env.scope.kind = .function) (hl : env.kindOf x = some .local)
    (h : Ev Γ n env st e fun w st2 => ∃ j, w = .int j ∧ Sto Γ n env st2 x (.int (i + j)) (Q .next)) :
    Ex Γ n env st (.AugAssign (.Name x p) .Add e pos) Q := fun A s ρ φ hA r => by
  obtain ⟨m, hm, hf⟩ := r.frame
  obtain ⟨v', e1, hr⟩ := hf x _ hv
  cases hr
  refine wpAny_AugAssign_Name (wpAny_loadName_local hk hl hm e1 (J.use h hA r fun b s2 ρ2 w st2 x2 r2 v2 q2 => ?_))
  obtain ⟨j, rfl, q⟩ := q2
  cases v2
  refine PyProof.Rows.iadd_int (wpAny_mono (q A { s2 with toks := s2.toks + 1 } ρ2 φ _ hA (r2.tok _) (.int _ _)) (fun _ s3 ⟨st3, x3, r3, q3⟩ => Post.mk (x2.trans x3) r3 (b := Fl.next) rfl q3) fun _ _ z => z)

-- a dict
theorem Ev.dictM {pos} {Q : V → St → Prop} (hsys : ∃ a o, sysModules < a ∧ Γ.B a = some o) (h : Q (.obj st.heap.length) { st with heap := st.heap ++ [.dict []] }) : Ev Γ n env st (.Dict [] [] pos) Q := fun A s ρ φ hA r => by
  refine wpAny_Dict_empty ?_
  have k : ∀ b o, s.heap.get? b = some o → (s.heap.push { cls := .type "dict", data := .dict #[] }).get? b = some o := fun b o e => Heap.get?_push_of_some _ e
  have hne : (s.heap.objs.size == sysModules) = false := by
    obtain ⟨a, o, hlt, e⟩ := hsys
    exact beq_eq_false_iff_ne.mpr (Nat.ne_of_gt (Nat.lt_trans hlt (Heap.lt_size (r.base _ _ e))))
  obtain ⟨y1, y2⟩ := r.add (tk := s.toks) (o := .dict []) (size_none s.heap) k (.dict ⟨hne, _, [], Heap.get?_push_size _ rfl, ⟨#[], 0, ⟨rfl, rfl, rfl⟩, rfl, fun e he => by simp at he, .nil, by simp⟩, .nil⟩)
  exact Post.mk y1 y2 (.obj (by simp [r.len])) h
noncomputable def St.dct (st : St) (v : V) (es : List (Int × Int)) : Prop := v = .dict es ∨ ∃ k, v = .obj k ∧ st.heap[k]? = some (.dict es)
theorem Rep.dct {ρ φ s v es a} (r : Rep Γ env ρ φ st s) (hl : st.dct v es) (hv : VR Γ.prog Γ.w ρ φ s.heap v a) : ∃ b, a = .ref b ∧ IsD Γ.prog Γ.w s.heap b es := by
  rcases hl with rfl | ⟨k, rfl, hk⟩
  · cases hv with | dict e _ _ => exact ⟨_, rfl, e⟩
  · cases hv with
    | obj e =>
      obtain ⟨b, e1, ho⟩ := r.heap k _ hk
      rw [e] at e1; cases e1
      cases ho with | dict g1 => exact ⟨_, rfl, g1⟩
theorem IsD.tab {p w h b es} (x : IsD p w h b es) : IntTab p w h b (kdfD es) := let ⟨q, o, kvs, e, hd, hf⟩ := x; ⟨q, kvs, Heap.dictOf_iff.mpr ⟨o, e, hd⟩, hf⟩
theorem Op2.itemD {o i v es j} {Q : V → St → Prop} (hs : ∀ a b, subscripted i false a b = operate [a, b] (getItem a b)) (hg : ∀ a r, letTemporaryGo o a r = pure ()) (hl : st.dct v es) (hk : kdfHas es j = true) (h : Q (.int (kdfLook es j 0)) st) : Op2 Γ n env st (subscriptTail o i) v (.int j) Q :=
  fun A s ρ φ a b hA r ha hb => by
    cases hb
    obtain ⟨b, rfl, x⟩ := r.dct hl ha
    exact kdf_item x.tab hk (fun t => Post.tok r (.int _ t) h) (hs _ _) (fun r => hg _ r)

end

end

section
open PySem PySem.Calls PyProof.Rows PySem.W

section
variable {Γ : Gam} {n : Nat} {env : Env} {st : St}

/-- a hidden object comes (an iterator) -/
theorem Rep.hide {ρ φ s h' tk a} (r : Rep Γ env ρ φ st s) (ha : s.heap.get? a = none) (k : ∀ b o, s.heap.get? b = some o → h'.get? b = some o) (hl : ∃ o, h'.get? a = some o) :
    Rep Γ env ρ (a :: φ) st { s with heap := h', toks := tk } ∧ Up ρ φ ρ (a :: φ) s.heap h' := by
  have hf := r.fresh ha
  have u : Up ρ φ ρ (a :: φ) s.heap h' := ⟨List.prefix_rfl, fun b o e h1 h2 => ⟨k b o e, h1, fun q => by
    rcases List.mem_cons.mp q with q | q
    · rw [q, ha] at e; cases e
    · exact h2 q⟩⟩
  refine ⟨⟨(let ⟨h0, t, e⟩ := r.same; ⟨h', tk, by rw [e]⟩), fun b o e => k b o (r.base b o e), r.len, r.nodup, r.freshR, fun b hb => ?_, fun b hb q => ?_, fun j o e => ?_, List.mem_cons_of_mem _ r.own, fun b hb => ?_, ?_, r.cells, r.pins⟩, u⟩
  · rcases List.mem_cons.mp hb with q | q
    · rw [q]
      cases e : Γ.B a with
      | none => rfl
      | some o => have := r.base a o e; rw [ha] at this; cases this
    · exact r.freshF b q
  · rcases List.mem_cons.mp q with q | q
    · exact hf.1 (q ▸ hb)
    · exact r.disj b hb q
  · obtain ⟨b, e1, ho⟩ := r.heap j o e; exact ⟨b, e1, ho.up u fun o e => k b o e⟩
  · rcases List.mem_cons.mp hb with q | q
    · rw [q]; exact hl
    · obtain ⟨o, e⟩ := r.live b q; exact ⟨o, k b o e⟩
  · obtain ⟨m, hm, hf⟩ := r.frame; exact ⟨m, hm.keeps k, fun x v e => let ⟨v', e1, e2⟩ := hf x v e; ⟨v', e1, e2.up u⟩⟩
/-- the hidden object moves on -/
theorem Rep.hidden {ρ φ s h' tk a} (r : Rep Γ env ρ φ st s) (ha : a ∈ φ) (hL : a ≠ env.locals) (k : ∀ b o, b ≠ a → s.heap.get? b = some o → h'.get? b = some o) (hl : ∃ o, h'.get? a = some o) :
    Rep Γ env ρ φ st { s with heap := h', toks := tk } ∧ Up ρ φ ρ φ s.heap h' := by
  have u : Up ρ φ ρ φ s.heap h' := ⟨List.prefix_rfl, fun b o e h1 h2 => ⟨k b o (fun q => h2 (q ▸ ha)) e, h1, h2⟩⟩
  refine ⟨⟨(let ⟨h0, t, e⟩ := r.same; ⟨h', tk, by rw [e]⟩), fun b o e => k b o (fun q => ?_) (r.base b o e), r.len, r.nodup, r.freshR, r.freshF, r.disj, fun j o e => ?_, r.own, fun b hb => ?_, ?_, r.cells, r.pins⟩, u⟩
  · rw [q, r.freshF a ha] at e; cases e
  · obtain ⟨b, e1, ho⟩ := r.heap j o e
    exact ⟨b, e1, ho.up u fun o e => k b o (fun q => r.disj b (List.mem_of_getElem? e1) (q ▸ ha)) e⟩
  · by_cases q : b = a
    · rw [q]; exact hl
    · obtain ⟨o, e⟩ := r.live b hb; exact ⟨o, k b o q e⟩
  · obtain ⟨m, hm, hf⟩ := r.frame; exact ⟨m, hm.at' fun o e => k _ o (fun q => hL q.symm) e, fun x v e => let ⟨v', e1, e2⟩ := hf x v e; ⟨v', e1, e2.up u⟩⟩
/-- and goes -/
theorem Rep.show {ρ φ s a} (r : Rep Γ env ρ (a :: φ) st s) (hL : env.locals ∈ φ) : Rep Γ env ρ φ st s ∧ Up ρ (a :: φ) ρ φ s.heap s.heap := by
  have u : Up ρ (a :: φ) ρ φ s.heap s.heap := ⟨List.prefix_rfl, fun b o e h1 h2 => ⟨e, h1, fun q => h2 (List.mem_cons_of_mem _ q)⟩⟩
  exact ⟨⟨r.same, r.base, r.len, r.nodup, r.freshR, fun b hb => r.freshF b (List.mem_cons_of_mem _ hb), fun b hb q => r.disj b hb (List.mem_cons_of_mem _ q), fun j o e => let ⟨b, e1, ho⟩ := r.heap j o e; ⟨b, e1, ho.up u fun o e => e⟩, hL, fun b hb => r.live b (List.mem_cons_of_mem _ hb),
    let ⟨m, hm, hf⟩ := r.frame; ⟨m, hm, fun x v e => let ⟨v', e1, e2⟩ := hf x v e; ⟨v', e1, e2.up u⟩⟩, r.cells, r.pins⟩, u⟩

/-- the hidden object goes, whatever became of it -/
theorem Rep.drop {ρ φ s h' tk a} (r : Rep Γ env ρ (a :: φ) st s) (hL : env.locals ∈ φ) (ha : a ∉ φ) (k : ∀ b o, b ≠ a → s.heap.get? b = some o → h'.get? b = some o) :
    Rep Γ env ρ φ st { s with heap := h', toks := tk } ∧ Up ρ (a :: φ) ρ φ s.heap h' := by
  have u : Up ρ (a :: φ) ρ φ s.heap h' := ⟨List.prefix_rfl, fun b o e h1 h2 => ⟨k b o (fun q => h2 (q ▸ List.mem_cons_self)) e, h1, fun q => h2 (List.mem_cons_of_mem _ q)⟩⟩
  refine ⟨⟨(let ⟨h0, t, e⟩ := r.same; ⟨h', tk, by rw [e]⟩), fun b o e => k b o (fun q => ?_) (r.base b o e), r.len, r.nodup, r.freshR, fun b hb => r.freshF b (List.mem_cons_of_mem _ hb), fun b hb q => r.disj b hb (List.mem_cons_of_mem _ q), fun j o e => ?_, hL, fun b hb => ?_, ?_, r.cells, r.pins⟩, u⟩
  · rw [q, r.freshF a List.mem_cons_self] at e; cases e
  · obtain ⟨b, e1, ho⟩ := r.heap j o e
    exact ⟨b, e1, ho.up u fun o e => k b o (fun q => r.disj b (List.mem_of_getElem? e1) (q ▸ List.mem_cons_self)) e⟩
  · obtain ⟨o, e⟩ := r.live b (List.mem_cons_of_mem _ hb); exact ⟨o, k b o (fun q => ha (q ▸ hb)) e⟩
  · obtain ⟨m, hm, hf⟩ := r.frame; exact ⟨m, hm.at' fun o e => k _ o (fun q => ha (q ▸ hL)) e, fun x v e => let ⟨v', e1, e2⟩ := hf x v e; ⟨v', e1, e2.up u⟩⟩

noncomputable def intsV (a b : Int) : List V := (List.range (b - a).toNat).map fun (i : Nat) => V.int (a + (i : Int))
inductive Itr : V → List V → Prop
  | list {vs} (h : vs.length ≤ 1000) : Itr (.list vs) vs
  | rng {a b} (h1 : -(2 ^ 62) ≤ a) (h2 : a < 2 ^ 62) (h3 : -(2 ^ 62) ≤ b) (h4 : b < 2 ^ 62) : Itr (.rng a b) (intsV a b)

/-- an iterator that lets no tuple go -/
noncomputable def PlainIt (o : Obj) : Prop := ∃ T, o.cls = .type T ∧ (["enumerate", "zip", "dict_itemiterator", "dict_reverseitemiterator", "odict_iterator", "itertools.zip_longest", "itertools.pairwise"].contains T) = false
theorem Rep.iter {ρ φ s v vs a A} {Q : Value → Shared → Prop} {E : Value → Shared → Prop} (r : Rep Γ env ρ φ st s) (hA : A.handled = none) (hv : VR Γ.prog Γ.w ρ φ s.heap v a) (hi : Itr v vs)
    (k : ∀ I fp P Sx h', s.heap.get? I = none → (∀ b o, s.heap.get? b = some o → h'.get? b = some o) → Rep Γ env ρ (I :: φ) st { s with heap := h' } → Walks Γ.prog Γ.w A I fp [I] vs.length P Sx → Sx 0 h' → (∀ i h, Sx i h → ∃ o, h.get? I = some o ∧ PlainIt o) →
      (∀ b ∈ fp, b = I ∨ (b ∉ ρ ∧ b ∉ φ ∧ ∃ o, s.heap.get? b = some o)) → (∀ (i : Nat) v', P i v' → ∃ u, vs[i]? = some u ∧ VR Γ.prog Γ.w ρ φ s.heap u v') → Q (.ref I) { s with heap := h' }) :
    wpAny (model Γ.prog Γ.w) A (pyIter a) Q E s := by
  cases hi with
  | list _ =>
    cases hv with
    | @list _ l its m e f1 f2 g =>
      refine wpAny_pyIter_list (isList_of e) ?_
      have kk : ∀ b o, s.heap.get? b = some o → (s.heap.push { cls := .type "list_iterator", data := .fields #[.ref l, .int 0 0] }).get? b = some o := fun b o e => Heap.get?_push_of_some _ e
      obtain ⟨r1, u⟩ := r.hide (tk := s.toks) (size_none s.heap) kk ⟨_, Heap.get?_push_size _ rfl⟩
      have hne : l ≠ s.heap.objs.size := Nat.ne_of_lt (Heap.lt_size e)
      have hlen := g.length
      have W := Walks.list (prog := Γ.prog) (w := Γ.w) hA s.heap.objs.size l hne its
      rw [show its.size = vs.length by rw [hlen]; simp] at W
      refine k _ _ _ _ _ (size_none s.heap) kk r1 W ⟨⟨_, Heap.get?_push_size _ rfl, rfl, rfl⟩, isList_of (kk _ _ e)⟩ (fun i h hs => let ⟨⟨o, e, hc, _⟩, _⟩ := hs; ⟨o, e, _, hc, by decide⟩) (fun b hb => ?_) fun i v' hp => ?_
      · rcases List.mem_cons.mp hb with q | q
        · exact .inl q
        · rw [List.mem_singleton.mp q]; exact .inr ⟨f1, f2, _, e⟩
      · have hlt : i < vs.length := by
          have := (Array.getElem?_eq_some_iff.mp hp).1
          rw [hlen]; simpa using this
        obtain ⟨y, e1, hy⟩ := g.get (List.getElem?_eq_getElem hlt)
        have : y = v' := by
          have h2 : its.toList[i]? = some v' := by simpa using hp
          rw [e1] at h2; exact Option.some.inj h2
        subst this
        exact ⟨_, List.getElem?_eq_getElem hlt, hy⟩
  | @rng i j h1 h2 h3 h4 =>
    cases hv with
    | @rng _ _ l t1 t2 t3 e f1 f2 =>
      refine wpAny_pyIter_range e (small_one h1 h2 h3 h4) ?_
      have hn : Builtin.Range.rangeSize i j 1 = (((j - i).toNat : Nat) : Int) := by rw [rangeSize_one]; split <;> omega
      rw [hn]
      have kk : ∀ b o, s.heap.get? b = some o → (s.heap.push { cls := .type "range_iterator", data := .fields #[rawInt i, rawInt (((j - i).toNat : Nat) : Int), rawInt 1] }).get? b = some o := fun b o e => Heap.get?_push_of_some _ e
      obtain ⟨r1, u⟩ := r.hide (tk := s.toks) (size_none s.heap) kk ⟨_, Heap.get?_push_size _ rfl⟩
      have W := Walks.range (prog := Γ.prog) (w := Γ.w) (A := A) hA s.heap.objs.size i 1 (j - i).toNat
      rw [show (j - i).toNat = (intsV i j).length by simp [intsV]] at W
      refine k _ _ _ _ _ (size_none s.heap) kk r1 W.bound ?_ (fun i h hs => ⟨_, hs, _, rfl, by decide⟩) (fun b hb => .inl (List.mem_singleton.mp hb)) fun m v' hp => ?_
      · show IsRangeIter _ _ _ _ _
        have := Heap.get?_push_size (o := { cls := .type "range_iterator", data := .fields #[rawInt i, rawInt (((j - i).toNat : Nat) : Int), rawInt 1] }) s.heap rfl
        simpa [IsRangeIter, intsV] using this
      · obtain ⟨hlt, t, rfl⟩ := hp
        refine ⟨.int (i + (m : Int)), ?_, ?_⟩
        · have : m < (j - i).toNat := by simpa [intsV] using hlt
          simp [intsV, this]
        · have e1 : i + (m : Int) * 1 = i + (m : Int) := by omega
          rw [e1]; exact .int _ _

theorem Ext.hid {L ρ ρ' h0 h h2 a} (x : Ext L ρ ρ' h0 h) (ha : h0.get? a = none) (k : ∀ b o, b ≠ a → h.get? b = some o → h2.get? b = some o) : Ext L ρ ρ' h0 h2 := by
  have ne : ∀ b o, h0.get? b = some o → b ≠ a := fun b o e q => by rw [q, ha] at e; cases e
  exact ⟨x.pre, x.new, fun b o e h1 h3 => k b o (ne b o e) (x.kept b o e h1 h3), fun b o e => let ⟨o', e'⟩ := x.live b o e; ⟨o', k b o' (ne b o e) e'⟩⟩
theorem Ext.upHid {L ρ ρ' φ h0 h a} (x : Ext L ρ ρ' h0 h) (hL : L ∈ φ) (ha : h0.get? a = none) : Up ρ φ ρ' (a :: φ) h0 h :=
  ⟨x.pre, fun b o e h1 h2 => ⟨x.kept b o e h1 fun q => h2 (q ▸ hL), (fun hm => (x.new b hm).elim h1 fun h3 => by rw [e] at h3; exact (nomatch h3)), fun q => (List.mem_cons.mp q).elim (fun q => by rw [q, ha] at e; cases e) h2⟩⟩
/-- a loop's item is taken -/
noncomputable def Asg (Γ : Gam) (n : Nat) (env : Env) (st : St) (target : Expr) (v : V) (P : St → Prop) : Prop :=
  ∀ A s ρ φ a, AOk n A → Rep Γ env ρ φ st s → VR Γ.prog Γ.w ρ φ s.heap v a → wpAny (model Γ.prog Γ.w) A (assign target env a) (fun _ s' => ∃ st', Ext env.locals ρ ρ s.heap s'.heap ∧ Rep Γ env ρ φ st' s' ∧ P st') (fun _ _ => False) s
theorem Asg.name {x p v} {P : St → Prop} (h : Sto Γ n env st x v P) : Asg Γ n env st (.Name x p) v P := fun A s ρ φ a hA r hv => wpAny_assign_Name (h A s ρ φ a hA r hv)

/-- for x in a list, a range -/
theorem Ex.for {x p iter body pos} {Q : Fl → St → Prop} (hs : ∀ x, foldedSetIterable iter env x = pure x)
    (h : Ev Γ n env st iter fun v st1 => ∃ vs, Itr v vs ∧ ∃ I : Nat → St → Prop, I 0 st1 ∧
      (∀ i st' u, I i st' → vs[i]? = some u → Asg Γ n env st' (.Name x p) u fun st'' => Exs Γ n env st'' body (LoopQ (I (i + 1)) Q)) ∧
      ∀ st', I vs.length st' → Q .next st') : Ex Γ n env st (.For (.Name x p) iter body [] pos) Q := fun A s ρ φ hA r => by
  refine wpAny_For (J.use h hA r fun a s1 ρ1 v st1 x1 r1 v1 q1 => ?_) hs
  obtain ⟨vs, hi, I, h0, turn, done⟩ := q1
  refine r1.iter hA.handled v1 hi fun it fp P Sx h' hit kk r2 W hSx hlv hfp hP => ?_
  have hitL : it ≠ env.locals := fun q => by obtain ⟨o, e⟩ := r1.live _ r1.own; rw [← q, hit] at e; cases e
  refine codeAny_forLoop (R := fun r s' => match r with | .ok f => Post Γ env ρ φ s.heap (FR Γ) Q f s' | .error e => cameBackBy (model Γ.prog Γ.w) A env (fun _ _ => False) e s')
    (fun j s' => ∃ i ρ' st', i ≤ vs.length ∧ j = vs.length - i ∧ Ext env.locals ρ1 ρ' s1.heap s'.heap ∧ Rep Γ env ρ' (it :: φ) st' s' ∧ Sx i s'.heap ∧ I i st') ?_ vs.length ⟨0, ρ1, st1, Nat.zero_le _, rfl, Ext.grow kk, r2, hSx, h0⟩
  rintro j s' ⟨i, ρ', st', hle, rfl, x2, r3, hS, hI⟩
  rcases Nat.lt_or_ge i vs.length with hlt | hge
  · refine W.item i s' _ _ hlt hS fun v' h2 tk hp hS' k2 => ?_
    have k2' : ∀ b o, b ≠ it → s'.heap.get? b = some o → h2.get? b = some o := fun b o hb e => k2 b o (by simp [hb]) e
    obtain ⟨r4, u4⟩ := r3.hidden (tk := tk) List.mem_cons_self hitL k2' (let ⟨o, e, _⟩ := hlv _ _ hS'; ⟨o, e⟩)
    have x3 := x2.hid hit k2'
    obtain ⟨u, hu, hv'⟩ := hP i v' hp
    have hv4 : VR Γ.prog Γ.w ρ' (it :: φ) h2 u v' := hv'.up (x3.upHid r1.own hit)
    refine wpAny_mono (turn i st' u hI hu A _ ρ' (it :: φ) v' hA r4 hv4) (fun _ s5 ⟨st5, x5, r5, q5⟩ => ?_) fun _ _ z => z.elim
    refine J.use q5 hA r5 fun f s6 ρ6 c st6 x6 r6 v6 q6 => ?_
    have y := (x3.trans x5).trans x6
    have hS6 : Sx (i + 1) s6.heap := by
      refine W.frame _ _ _ hS' fun b hb o e => ?_
      have e5 : s5.heap.get? b = some o := x5.kept b o e (fun q => ?_) fun q => ?_
      · refine x6.kept b o e5 (fun q => ?_) fun q => ?_
        · rcases hfp b hb with h1 | ⟨h1, h2, o', h3⟩
          · exact r5.disj b q (h1 ▸ List.mem_cons_self)
          · rcases x3.new b q with h4 | h4
            · exact h1 h4
            · rw [h3] at h4; cases h4
        · rcases hfp b hb with h1 | ⟨h1, h2, _⟩
          · exact hitL (h1 ▸ q)
          · exact h2 (q ▸ r1.own)
      · rcases hfp b hb with h1 | ⟨h1, h2, o', h3⟩
        · exact r4.disj b q (h1 ▸ List.mem_cons_self)
        · rcases x3.new b q with h4 | h4
          · exact h1 h4
          · rw [h3] at h4; cases h4
      · rcases hfp b hb with h1 | ⟨h1, h2, _⟩
        · exact hitL (h1 ▸ q)
        · exact h2 (q ▸ r1.own)
    have back : ∀ {fl : Fl} {g : Flow}, FR Γ ρ6 (it :: φ) s6.heap fl g → Q fl st6 → Post Γ env ρ φ s.heap (FR Γ) Q g s6 := fun {fl g} hg hq => by
      obtain ⟨r7, u7⟩ := r6.show r1.own
      refine Post.mk (x1.trans y) r7 (b := fl) ?_ hq
      cases fl with
      | ret w => obtain ⟨a, e, hw⟩ := hg; exact ⟨a, e, hw.up u7⟩
      | next => exact hg
      | brk => exact hg
      | cont => exact hg
    cases c with
    | next => cases v6; exact ⟨vs.length - (i + 1), by omega, i + 1, ρ6, st6, hlt, rfl, y, r6, hS6, q6⟩
    | cont => cases v6; exact ⟨vs.length - (i + 1), by omega, i + 1, ρ6, st6, hlt, rfl, y, r6, hS6, q6⟩
    | brk => cases v6; exact back (fl := .next) rfl q6
    | ret w => obtain ⟨a, rfl, hw⟩ := v6; exact back (fl := .ret w) ⟨a, rfl, hw⟩ q6
  · obtain rfl : i = vs.length := Nat.le_antisymm hle hge
    refine W.done s' _ _ hS fun h2 tk k2 => ?_
    have k2' : ∀ b o, b ≠ it → s'.heap.get? b = some o → h2.get? b = some o := fun b o hb e => k2 b o (by simp [hb]) e
    obtain ⟨r4, u4⟩ := r3.drop (tk := tk) r1.own (r1.fresh hit).2 k2'
    exact wpAny_execs_nil (Post.mk (x1.trans (x2.hid hit k2')) r4 (b := Fl.next) rfl (done st' hI))
end

end

section
open PySem PySem.Calls PyProof.Rows PySem.W

mutual
/-- a value without changeable parts -/
inductive Fz : V → Prop
  | int (i) : Fz (.int i)
  | str (x) : Fz (.str x)
  | flt (x) : Fz (.flt x)
  | bool (x) : Fz (.bool x)
  | none : Fz .none
  | list {vs} : Fzs vs → Fz (.list vs)
inductive Fzs : List V → Prop
  | nil : Fzs []
  | cons {v vs} : Fz v → Fzs vs → Fzs (v :: vs)
end
theorem Fzs.of : ∀ {vs : List V}, (∀ v ∈ vs, Fz v) → Fzs vs
  | [], _ => .nil
  | v :: vs, h => .cons (h v List.mem_cons_self) (Fzs.of fun w hw => h w (List.mem_cons_of_mem _ hw))
theorem Fzs.map {α : Type} (f : α → V) (hf : ∀ a, Fz (f a)) (l : List α) : Fzs (l.map f) := Fzs.of fun v hv => by obtain ⟨a, _, rfl⟩ := List.mem_map.mp hv; exact hf a
theorem VR.objI {p w ρ φ h k a} (x : VR p w ρ φ h (.obj k) a) : ∃ b, a = .ref b ∧ ρ[k]? = some b := by cases x with | obj e => exact ⟨_, rfl, e⟩
theorem VR.listI {p w ρ φ h vs a} (x : VR p w ρ φ h (.list vs) a) : ∃ b its n, a = .ref b ∧ h.get? b = some (listOf its n) ∧ b ∉ ρ ∧ b ∉ φ ∧ VRs p w ρ φ h vs its.toList := by cases x with | list e h1 h2 r => exact ⟨_, _, _, rfl, e, h1, h2, r⟩
theorem VR.tupI {p w ρ φ h vs a} (x : VR p w ρ φ h (.tup vs) a) : ∃ its : Array Value, VRs p w ρ φ h vs its.toList := by cases x with | tup _ _ _ r => exact ⟨_, r⟩
theorem VR.lamI {p w ρ φ h nm q ps e sc y k a} (x : VR p w ρ φ h (.lam nm q ps e sc y k) a) : (∃ b, ρ[k]? = some b) ∧ ∃ c, VR p w ρ φ h (.code q) (.ref c) := by cases x with | lam _ _ _ e y => exact ⟨⟨_, e⟩, _, y⟩
theorem VRs.consI {p w ρ φ h v vs as} (x : VRs p w ρ φ h (v :: vs) as) : ∃ a as', as = a :: as' ∧ VR p w ρ φ h v a ∧ VRs p w ρ φ h vs as' := by cases x with | cons x r => exact ⟨_, _, rfl, x, r⟩
theorem VRs.nilI {p w ρ φ h as} (x : VRs p w ρ φ h [] as) : as = [] := by cases x; rfl
theorem Fz.low {p w ρ ρ' φ h v a} (f : Fz v) : VR p w ρ φ h v a → (∀ b, b ∈ ρ' → b ∈ ρ) → VR p w ρ' φ h v a :=
  Fz.rec (motive_1 := fun v _ => ∀ a, VR p w ρ φ h v a → (∀ b, b ∈ ρ' → b ∈ ρ) → VR p w ρ' φ h v a) (motive_2 := fun vs _ => ∀ as, VRs p w ρ φ h vs as → (∀ b, b ∈ ρ' → b ∈ ρ) → VRs p w ρ' φ h vs as)
    (fun i a x _ => by cases x; exact .int _ _) (fun i a x _ => by cases x; exact .str _ _) (fun i a x _ => by cases x; exact .flt _ _) (fun i a x _ => by cases x; exact .bool _) (fun a x _ => by cases x; exact .none)
    (fun _ ih a x k => by obtain ⟨_, _, _, rfl, e, h1, h2, r⟩ := x.listI; exact .list e (fun q => h1 (k _ q)) h2 (ih _ r k))
    (fun _ x _ => by cases x.nilI; exact .nil) (fun _ _ ih1 ih2 _ x k => by obtain ⟨_, _, rfl, x, r⟩ := x.consI; exact .cons (ih1 _ x k) (ih2 _ r k)) f a
theorem Fzs.low {p w ρ ρ' φ h} : ∀ {vs as}, Fzs vs → VRs p w ρ φ h vs as → (∀ b, b ∈ ρ' → b ∈ ρ) → VRs p w ρ' φ h vs as
  | [], _, _, x, k => by cases x.nilI; exact .nil
  | v :: vs, _, f, x, k => by obtain ⟨_, _, rfl, x, r⟩ := x.consI; cases f with | cons f fs => exact .cons (f.low x k) (Fzs.low fs r k)
theorem get_low {ρ D : List Addr} {k : Nat} {a b : Addr} (e : ρ[k]? = some b) (e2 : (ρ ++ D)[k]? = some a) : ρ[k]? = some a := by rw [List.getElem?_append_left (List.getElem?_eq_some_iff.mp e).1] at e2; exact e2
theorem mem_low {ρ D : List Addr} {a : Addr} (h : a ∉ ρ ++ D) : a ∉ ρ := fun z => h (List.mem_append_left _ z)
theorem VR.lowA {p w ρ φ h φ₂ h₂} {D : List Addr} {v a₂} (y : VR p w (ρ ++ D) φ₂ h₂ v a₂) : ∀ a, VR p w ρ φ h v a → VR p w ρ φ₂ h₂ v a₂ :=
  VR.rec (motive_1 := fun v a₂ _ => ∀ a, VR p w ρ φ h v a → VR p w ρ φ₂ h₂ v a₂) (motive_2 := fun vs as₂ _ => ∀ as, VRs p w ρ φ h vs as → VRs p w ρ φ₂ h₂ vs as₂)
    (fun _ t _ _ => .int _ t) (fun _ t _ _ => .str _ t) (fun _ t _ _ => .flt _ t) (fun _ _ _ => .bool _) (fun _ _ => .none) (fun _ _ _ => .val _)
    (fun e2 _ x => .obj (x.objI.elim fun _ e => get_low e.2 e2))
    (fun e h1 h2 _ ih _ x => .list e (mem_low h1) h2 (x.listI.elim fun _ z => z.elim fun _ z => z.elim fun _ z => ih _ z.2.2.2.2))
    (fun e h1 h2 _ ih _ x => .tup e (mem_low h1) h2 (x.tupI.elim fun _ z => ih _ z))
    (fun e h1 h2 _ _ => .dict e (mem_low h1) h2) (fun e h1 h2 _ _ => .rng e (mem_low h1) h2) (fun e g1 g2 h1 h2 _ _ => .code e g1 g2 (mem_low h1) h2)
    (fun e2 h1 h2 e3 _ ih _ x => .lam e2 (mem_low h1) h2 (x.lamI.1.elim fun _ e => get_low e e3) (x.lamI.2.elim fun _ z => ih _ z))
    (fun _ _ => .nil) (fun _ _ ih1 ih2 _ x => x.consI.elim fun _ z => z.elim fun _ z => .cons (ih1 _ z.2.1) (ih2 _ z.2.2)) y
theorem VRs.lowA {p w ρ φ h φ₂ h₂} {D : List Addr} : ∀ {vs as₂}, VRs p w (ρ ++ D) φ₂ h₂ vs as₂ → ∀ as, VRs p w ρ φ h vs as → VRs p w ρ φ₂ h₂ vs as₂
  | _, _, .nil => fun _ _ => .nil
  | _, _, .cons y r2 => fun _ x => x.consI.elim fun _ z => z.elim fun _ z => .cons (y.lowA _ z.2.1) (VRs.lowA r2 _ z.2.2)
/-- what stood before D came stands without it -/
theorem VR.low {p w ρ φ h v a ρ₂ φ₂ h₂ a₂} {D : List Addr} (x : VR p w ρ φ h v a) (y : VR p w (ρ ++ D) φ₂ h₂ v a₂) (q : ρ = ρ₂) : VR p w ρ₂ φ₂ h₂ v a₂ := by
  subst q; exact y.lowA _ x
theorem VRs.low {p w ρ φ h vs as ρ₂ φ₂ h₂ as₂} {D : List Addr} (x : VRs p w ρ φ h vs as) (y : VRs p w (ρ ++ D) φ₂ h₂ vs as₂) (q : ρ = ρ₂) : VRs p w ρ₂ φ₂ h₂ vs as₂ := by
  subst q; exact y.lowA _ x
theorem OR.low {p w ρ φ h a o φ₂ h₂} {D : List Addr} (x : OR p w ρ φ h a o) (y : OR p w (ρ ++ D) φ₂ h₂ a o) : OR p w ρ φ₂ h₂ a o := by
  cases y with
  | list e r2 => cases x with | list _ r => exact .list e (r.low r2 rfl)
  | dict e => exact .dict e
  | cellN e q => exact .cellN e q
  | cellS e q r2 => cases x with | cellS _ _ r => exact .cellS e q (r.low r2 rfl)
  | tab e r2 => cases x with | tab _ r => exact .tab e (r.low r2 rfl)

section
variable {Γ : Gam} {n : Nat} {env : Env} {st : St}

theorem Rep.perm {ρ φ φ' s} (r : Rep Γ env ρ φ st s) (h : ∀ a, a ∈ φ' ↔ a ∈ φ) : Rep Γ env ρ φ' st s := by
  have u : Up ρ φ ρ φ' s.heap s.heap := ⟨List.prefix_rfl, fun b o e h1 h2 => ⟨e, h1, fun q => h2 ((h b).mp q)⟩⟩
  exact ⟨r.same, r.base, r.len, r.nodup, r.freshR, fun b hb => r.freshF b ((h b).mp hb), fun b hb q => r.disj b hb ((h b).mp q), fun j o e => let ⟨b, e1, ho⟩ := r.heap j o e; ⟨b, e1, ho.up u fun o e => e⟩, (h _).mpr r.own, fun b hb => r.live b ((h b).mp hb),
    let ⟨m, hm, hf⟩ := r.frame; ⟨m, hm, fun x v e => let ⟨v', e1, e2⟩ := hf x v e; ⟨v', e1, e2.up u⟩⟩, r.cells, r.pins⟩

/-- back from an inner frame that stays hidden, without the last object, the state else as it was -/
theorem Rep.pop {ρ φ φ' s s' env' st' D xs} (r : Rep Γ env ρ φ st s) (r' : Rep Γ env' (ρ ++ [D]) φ' st' s') (hst : st'.heap = st.heap ++ [.list xs]) (hfz : Fzs xs)
    (hφ : ∀ a ∈ φ, a ∈ φ') (hLφ : env.locals ∈ φ') (kept : ∀ b o, s.heap.get? b = some o → b ∉ ρ → s'.heap.get? b = some o)
    (live : ∀ b o, s.heap.get? b = some o → b ∉ φ → b ∉ φ') (hD : s.heap.get? D = Option.none) :
    Rep Γ env ρ φ' st s' ∧ Up ρ φ ρ φ' s.heap s'.heap ∧ VR Γ.prog Γ.w ρ φ' s'.heap (.list xs) (.ref D) := by
  have u : Up ρ φ ρ φ' s.heap s'.heap := ⟨List.prefix_rfl, fun b o e h1 h2 => ⟨kept b o e h1, h1, live b o e h2⟩⟩
  have hlen : st.heap.length = ρ.length := r.len.symm
  refine ⟨⟨r'.same, r'.base, r.len, r.nodup, r.freshR, r'.freshF, fun a ha => r'.disj a (List.mem_append_left _ ha), fun k o e => ?_, hLφ, r'.live, ?_, r.cells, r.pins⟩, u, ?_⟩
  · obtain ⟨a, e1, ho⟩ := r.heap k o e
    have hk : k < st.heap.length := (List.getElem?_eq_some_iff.mp e).1
    obtain ⟨a', e1', ho'⟩ := r'.heap k o (by rw [hst, List.getElem?_append_left hk]; exact e)
    rw [List.getElem?_append_left (hlen ▸ hk), e1] at e1'
    cases e1'
    exact ⟨a, e1, ho.low ho'⟩
  · obtain ⟨m, hm, hf⟩ := r.frame
    exact ⟨m, hm.at' fun o e => kept _ o e fun q => r.disj _ q r.own, fun y v e => let ⟨v', e1, e2⟩ := hf y v e; ⟨v', e1, e2.up u⟩⟩
  · obtain ⟨a', e1', ho'⟩ := r'.heap st.heap.length (.list xs) (by rw [hst]; simp)
    rw [hlen] at e1'
    simp at e1'
    subst e1'
    cases ho' with
    | @list _ its m g1 g2 =>
      have hDρ : D ∉ ρ := fun q => by obtain ⟨o, e⟩ := r.liveR q; rw [hD] at e; cases e
      exact .list g1 hDρ (r'.disj D (by simp)) (hfz.low g2 fun b hb => List.mem_append_left _ hb)

noncomputable def tailLast (elt e : Expr) (d : Nat) (env : Env) (it acc : Value) : Sem Fin := (eval elt env >>= fun x => call (.builtin "list.append") [acc, x] >>= fun _ => pure ()) >>= fun _ => again (.compLoop e d it acc env)
noncomputable def tailMore (iter e : Expr) (d : Nat) (env : Env) (it acc : Value) : Sem Fin :=
  eval iter env >>= fun x => standAt iter.pos >>= fun _ => foldedSetIterable iter env x >>= fun x => holding [x] (pyIter x) >>= fun j => runOwn (.compStart e (d + 1) j acc env) env >>= fun _ => again (.compLoop e d it acc env)
noncomputable def turnOf (target iter : Expr) (ifs : List Expr) (e : Expr) (d : Nat) (env : Env) (tail : Value → Value → Sem Fin) (it acc : Value) : Sem Fin :=
  standAt iter.pos >>= fun _ => pyNext it >>= fun r => match r with
    | none => pure (.done .next)
    | some v => letOwnedTupleGo target it v >>= fun _ => assign target env v >>= fun _ =>
      (forIn ifs true fun c r => if r = true then do let ok ← isTrue c env (eval c env); pure (ForInStep.yield ok) else pure (ForInStep.yield r)) >>= fun ok => if ok = true then tail it acc else again (.compLoop e d it acc env)
theorem compTurn_last (elt : Expr) (gens : List Comprehension) (scope : Scope) (pos : Pos) (d : Nat) (it acc : Value) (env : Env) {target iter : Expr} {ifs : List Expr} (hg : gens[d]? = some ⟨target, iter, ifs, 0⟩) (hn : gens[d + 1]? = none) :
    compTurn (.ListComp elt gens scope pos) d it acc env = turnOf target iter ifs (.ListComp elt gens scope pos) d env (tailLast elt (.ListComp elt gens scope pos) d env) it acc := by
  unfold compTurn
  simp only [hg, hn]
  rfl
theorem compTurn_more (elt : Expr) (gens : List Comprehension) (scope : Scope) (pos : Pos) (d : Nat) (it acc : Value) (env : Env) {target iter target' iter' : Expr} {ifs ifs' : List Expr} (hg : gens[d]? = some ⟨target, iter, ifs, 0⟩) (hn : gens[d + 1]? = some ⟨target', iter', ifs', 0⟩) :
    compTurn (.ListComp elt gens scope pos) d it acc env = turnOf target iter ifs (.ListComp elt gens scope pos) d env (tailMore iter' (.ListComp elt gens scope pos) d env) it acc := by
  unfold compTurn
  simp only [hg, hn]
  rfl

noncomputable def Ifs (Γ : Gam) (n : Nat) (env : Env) (st : St) (ifs : List Expr) (Q : Bool → St → Prop) : Prop :=
  J Γ n env st (forIn ifs true fun c r => if r = true then do let ok ← isTrue c env (eval c env); pure (ForInStep.yield ok) else pure (ForInStep.yield r)) (fun _ _ _ b a => a = b) Q
theorem Ifs.nil {Q : Bool → St → Prop} (h : Q true st) : Ifs Γ n env st [] Q := fun A s ρ φ hA r => wpAny_tests_nil (Post.here r rfl h)
theorem Ifs.one {c} {Q : Bool → St → Prop} (h : Tst Γ n env st c Q) : Ifs Γ n env st [c] Q := fun A s ρ φ hA r => wpAny_tests_one (h A s ρ φ hA r)

/-- the item leaves its iterator -/
noncomputable def Goes (Γ : Gam) (A : Around) (it : Addr) (Sx : Nat → Heap → Prop) : Prop := ∀ i s target v (Q : Unit → Shared → Prop) (E : Value → Shared → Prop), Sx i s.heap → Q () s → wpAny (model Γ.prog Γ.w) A (letOwnedTupleGo target (.ref it) v) Q E s

/-- a generator of a comprehension, its iterator laid -/
noncomputable def CL (Γ : Gam) (n : Nat) (env : Env) (st : St) (e : Expr) (d : Nat) (vs : List V) (k0 : Nat) (P : St → Prop) : Prop :=
  ∀ A h0 s ρ φ it fp Pw Sx D, AOk n A → h0.get? it = none → (∀ b o, h0.get? b = some o → s.heap.get? b = some o) → Rep Γ env ρ (it :: φ) st s → env.locals ∈ φ → it ∉ φ →
    Walks Γ.prog Γ.w A it fp [it] vs.length Pw Sx → Sx 0 s.heap → (∀ i h, Sx i h → ∃ o, h.get? it = some o) → Goes Γ A it Sx → (∀ b ∈ fp, b = it ∨ (b ∉ ρ ∧ b ∉ φ ∧ ∃ o, h0.get? b = some o)) →
    (∀ (i : Nat) v', Pw i v' → ∃ u, vs[i]? = some u ∧ VR Γ.prog Γ.w ρ φ h0 u v') → ρ[k0]? = some D →
    codeAny (model Γ.prog Γ.w) A (.compLoop e d (.ref it) (.ref D) env) (fun r s' => ∃ ρ' st', r = .ok .next ∧ Ext env.locals ρ ρ' h0 s'.heap ∧ Rep Γ env ρ' φ st' s' ∧ P st') s

noncomputable def TL (Γ : Gam) (n : Nat) (env : Env) (st : St) (k0 : Nat) (t : Value → Value → Sem Fin) (e : Expr) (d : Nat) (P : St → Prop) : Prop :=
  ∀ A s ρ φ it D, AOk n A → Rep Γ env ρ φ st s → ρ[k0]? = some D →
    wpAny (model Γ.prog Γ.w) A (t it (.ref D)) (fun fin s' => fin = .again (.compLoop e d it (.ref D) env) ∧ ∃ ρ' st', Ext env.locals ρ ρ' s.heap s'.heap ∧ Rep Γ env ρ' φ st' s' ∧ P st') (fun _ _ => False) s

theorem CL.core {elt : Expr} {gens : List Comprehension} {scope : Scope} {pos : Pos} {d k0 : Nat} {vs : List V} {P : St → Prop} {target iter : Expr} {ifs : List Expr} {tail : Value → Value → Sem Fin}
    (hc : ∀ it acc, compTurn (.ListComp elt gens scope pos) d it acc env = turnOf target iter ifs (.ListComp elt gens scope pos) d env tail it acc) (I : Nat → St → Prop) (hI0 : I 0 st)
    (turn : ∀ i st' u, I i st' → vs[i]? = some u → Asg Γ n env st' target u fun st1 => Ifs Γ n env st1 ifs fun b st2 => if b = true then TL Γ n env st2 k0 tail (.ListComp elt gens scope pos) d (I (i + 1)) else I (i + 1) st2)
    (done : ∀ st', I vs.length st' → P st') : CL Γ n env st (.ListComp elt gens scope pos) d vs k0 P := by
  intro A h0 s ρ1 φ it fp Pw Sx D hA hit kk r2 hLφ hitφ W hSx hlv go hfp hP hD
  have hitL : it ≠ env.locals := fun q => hitφ (q ▸ hLφ)
  refine codeAny_loop rfl (fun j s' => ∃ i ρ' st', i ≤ vs.length ∧ j = vs.length - i ∧ Ext env.locals ρ1 ρ' h0 s'.heap ∧ Rep Γ env ρ' (it :: φ) st' s' ∧ Sx i s'.heap ∧ I i st') ?_ vs.length ⟨0, ρ1, st, Nat.zero_le _, rfl, Ext.grow kk, r2, hSx, hI0⟩
  rintro j s' ⟨i, ρ', st', hle, rfl, x2, r3, hS, hI⟩
  show wpAny _ A ((compTurn (.ListComp elt gens scope pos) d (.ref it) (.ref D) env).onRaise (fun x => do noteFrame x env; theTreesLotGoes x)) _ _ s'
  refine wpAny_noted ?_
  rw [hc]
  refine wpAny_bind (wpAny_standAt (wpAny_bind ?_))
  rcases Nat.lt_or_ge i vs.length with hlt | hge
  · refine W.item i s' _ _ hlt hS fun v' h2 tk hp hS' k2 => ?_
    have k2' : ∀ b o, b ≠ it → s'.heap.get? b = some o → h2.get? b = some o := fun b o hb e => k2 b o (by simp [hb]) e
    obtain ⟨r4, u4⟩ := r3.hidden (tk := tk) List.mem_cons_self hitL k2' (hlv _ _ hS')
    have x3 := x2.hid hit k2'
    obtain ⟨u, hu, hv'⟩ := hP i v' hp
    have hv4 : VR Γ.prog Γ.w ρ' (it :: φ) h2 u v' := hv'.up (x3.upHid hLφ hit)
    refine wpAny_bind (go (i + 1) _ target v' _ _ hS' ?_)
    refine wpAny_bind (wpAny_mono (turn i st' u hI hu A _ ρ' (it :: φ) v' hA r4 hv4) (fun _ s5 ⟨st5, x5, r5, q5⟩ => ?_) fun _ _ z => z.elim)
    refine wpAny_bind (J.use q5 hA r5 fun b s6 ρ6 c st6 x6 r6 v6 q6 => ?_)
    cases v6
    have y := (x3.trans x5).trans x6
    have frame : ∀ (ρ7 : List Addr) (s7 : Shared), Ext env.locals ρ' ρ7 h2 s7.heap → Sx (i + 1) s7.heap := fun ρ7 s7 x7 => W.frame _ _ _ hS' fun b hb o e => x7.kept b o e (fun q => by
      rcases hfp b hb with h1 | ⟨h1, h2, o', h3⟩
      · exact r4.disj b q (h1 ▸ List.mem_cons_self)
      · rcases x3.new b q with h4 | h4
        · exact h1 h4
        · rw [h3] at h4; cases h4) fun q => by
      rcases hfp b hb with h1 | ⟨h1, h2, _⟩
      · exact hitL (h1 ▸ q)
      · exact h2 (q ▸ hLφ)
    cases b with
    | false =>
      simp only [Bool.false_eq_true, if_false] at q6 ⊢
      exact wpAny_pure ⟨rfl, vs.length - (i + 1), by omega, i + 1, ρ6, st6, hlt, rfl, y, r6, frame ρ6 s6 (x5.trans x6), q6⟩
    | true =>
      simp only [if_true] at q6 ⊢
      refine wpAny_mono (q6 A s6 ρ6 (it :: φ) (.ref it) D hA r6 (pre_get y.pre hD)) (fun fin s7 ⟨hf, ρ7, st7, x7, r7, q7⟩ => ?_) fun _ _ z => z.elim
      subst hf
      exact ⟨rfl, vs.length - (i + 1), by omega, i + 1, ρ7, st7, hlt, rfl, y.trans x7, r7, frame ρ7 s7 ((x5.trans x6).trans x7), q7⟩
  · obtain rfl : i = vs.length := Nat.le_antisymm hle hge
    refine W.done s' _ _ hS fun h2 tk k2 => ?_
    have k2' : ∀ b o, b ≠ it → s'.heap.get? b = some o → h2.get? b = some o := fun b o hb e => k2 b o (by simp [hb]) e
    obtain ⟨r4, u4⟩ := r3.drop (tk := tk) hLφ hitφ k2'
    exact wpAny_pure ⟨ρ', st', rfl, x2.hid hit k2', r4, done st' hI⟩

theorem TL.last {elt e : Expr} {d k0 : Nat} {P : St → Prop} (h : Ev Γ n env st elt fun v st3 => ∃ xs, st3.heap[k0]? = some (.list xs) ∧ xs.length ≤ 1000 ∧ P (st3.upd k0 (.list (xs ++ [v])))) : TL Γ n env st k0 (tailLast elt e d env) e d P := by
  intro A s ρ φ it D hA r hD
  refine wpAny_bind (wpAny_bind (J.use h hA r fun a s1 ρ1 v st1 x1 r1 v1 q1 => ?_))
  obtain ⟨xs, ho, hl, q⟩ := q1
  have hD1 := pre_get x1.pre hD
  obtain ⟨b, e1, ho'⟩ := r1.heap k0 _ ho
  rw [hD1] at e1; cases e1
  cases ho' with
  | @list _ its m g1 g2 =>
    refine wpAny_bind (wpAny_list_append_plain (items := its) ⟨m, g1⟩ (fun h' hp hs => ?_) (hsz := by have := g2.length; rw [sizeLine_eq]; simp at this; omega))
    obtain ⟨m', e'⟩ := hp
    have hm : D ∈ ρ1 := List.mem_of_getElem? hD1
    obtain ⟨y1, y2⟩ := r1.set (tk := s1.toks) hD1 (List.getElem?_eq_some_iff.mp ho).1 hs (Up.at hm hs) (.list (its := its.push a) (vs := xs ++ [v]) e' (by rw [Array.toList_push]; exact (g2.up (Up.at hm hs)).append (.cons (v1.up (Up.at hm hs)) .nil))) ⟨_, e'⟩
    exact wpAny_pure (wpAny_pure ⟨rfl, ρ1, _, x1.trans y1, y2, q⟩)

end

end

section
open PySem PySem.Calls PyProof.Rows PySem.W
section
variable {Γ : Gam} {n : Nat} {env : Env} {st : St}

theorem goes_of {A : Around} {it : Addr} {Sx : Nat → Heap → Prop} (h : ∀ i h, Sx i h → ∃ o, h.get? it = some o ∧ PlainIt o) : Goes Γ A it Sx := by
  intro i s target v Q E hs hq
  obtain ⟨o, ho, T, hc, hT⟩ := h i _ hs
  unfold letOwnedTupleGo
  split
  · cases v with
    | ref a =>
      refine wpAny_bind (wpAny_load ho ?_)
      rw [hc]
      cases o.data with
      | fields vs =>
        show wpAny _ A (if (["enumerate", "zip", "dict_itemiterator", "dict_reverseitemiterator", "odict_iterator", "itertools.zip_longest", "itertools.pairwise"].contains T && vs[0]? == some (rawInt a)) = true then _ else _) Q E s
        rw [if_neg (by rw [hT, Bool.false_and]; exact Bool.false_ne_true)]
        exact wpAny_pure hq
      | _ => exact wpAny_pure hq
    | _ => exact wpAny_pure hq
  · cases v with
    | ref a =>
      refine wpAny_bind (wpAny_load ho ?_)
      rw [hc]
      cases o.data with
      | fields vs =>
        show wpAny _ A (if (["enumerate", "zip", "dict_itemiterator", "dict_reverseitemiterator", "odict_iterator", "itertools.zip_longest", "itertools.pairwise"].contains T && vs[0]? == some (rawInt a)) = true then _ else _) Q E s
        rw [if_neg (by rw [hT, Bool.false_and]; exact Bool.false_ne_true)]
        exact wpAny_pure hq
      | _ => exact wpAny_pure hq
    | _ => exact wpAny_pure hq
  · exact wpAny_pure hq

theorem compStart_any {elt : Expr} {gens : List Comprehension} {scope : Scope} {pos : Pos} {d : Nat} {it acc : Value} {g : Comprehension} {A : Around} {R : Result → Shared → Prop} {s : Shared} (hg : gens[d]? = some g) (ha : g.is_async = 0)
    (h0 : codeAny (model Γ.prog Γ.w) A (.compLoop (.ListComp elt gens scope pos) d it acc env) R s)
    (h : ∀ E, wpAny (model Γ.prog Γ.w) A (pyIter it) (fun it' s' => codeAny (model Γ.prog Γ.w) A (.compLoop (.ListComp elt gens scope pos) d it' acc env) R s') E s) :
    codeAny (model Γ.prog Γ.w) A (.compStart (.ListComp elt gens scope pos) d it acc env) R s := by
  refine codeAny_of_tree ?_
  show wpAny _ _ ((compStart (.ListComp elt gens scope pos) d it acc env).onRaise (fun x => do noteFrame x env; standAt theWindowsPlace)) _ _ s
  refine wpAny_notedAt ?_
  unfold compStart
  simp only [show clausesOf (.ListComp elt gens scope pos) = gens from rfl, hg]
  rw [if_neg (by show ¬ ((g.is_async != 0) = true); rw [ha]; decide)]
  refine wpAny_bind (wpAny_askSetting (wpAny_ite ?_))
  split
  · first
      | exact wpAny_bind (wpAny_pure (wpAny_pure (And.intro rfl h0)))
      | exact wpAny_pure (And.intro rfl h0)
  · exact wpAny_bind (wpAny_rule (wpAny_bind (wpAny_standAt (wpAny_bind (wpAny_mono (h _) (fun it' s' h' => wpAny_pure (And.intro rfl h')) fun _ _ x => x)))))

theorem TL.more {elt : Expr} {gens : List Comprehension} {scope : Scope} {pos : Pos} {iter : Expr} {g : Comprehension} {d k0 : Nat} {P : St → Prop} (hg : gens[d + 1]? = some g) (ha : g.is_async = 0) (hs : ∀ x, foldedSetIterable iter env x = pure x)
    (h : Ev Γ n env st iter fun v st3 => ∃ vs, Itr v vs ∧ CL Γ n env st3 (.ListComp elt gens scope pos) (d + 1) vs k0 P) : TL Γ n env st k0 (tailMore iter (.ListComp elt gens scope pos) d env) (.ListComp elt gens scope pos) d P := by
  intro A s ρ φ it D hA r hD
  unfold tailMore
  refine wpAny_bind (J.use h hA r fun a s1 ρ1 v st1 x1 r1 v1 q1 => wpAny_bind (wpAny_standAt ?_))
  rw [hs]
  refine wpAny_bind (wpAny_pure (wpAny_bind (wpAny_holding ?_)))
  obtain ⟨vs, hi, q⟩ := q1
  refine r1.iter hA.handled v1 hi fun J fp Pw Sx h' hit kk r2 W hSx hlv hfp hP => ?_
  have hD1 := pre_get x1.pre hD
  have hJφ : J ∉ φ := fun q => by obtain ⟨o, e⟩ := r1.live J q; rw [hit] at e; cases e
  have main := q A s1.heap _ ρ1 φ J fp Pw Sx D hA hit kk r2 r1.own hJφ W hSx (fun i h hs => let ⟨o, e, _⟩ := hlv i h hs; ⟨o, e⟩) (goes_of hlv) hfp hP hD1
  refine wpAny_bind (wpAny_runOwn (codeAny_mono (compStart_any hg ha main fun E => W.self 0 _ _ _ hSx main) fun res s7 hr => ?_))
  obtain ⟨ρ7, st7, rfl, x7, r7, q7⟩ := hr
  exact wpAny_pure ⟨rfl, ρ7, st7, x1.trans x7, r7, q7⟩

/-- the cells that a comprehension takes in -/
noncomputable def freeCells (scope : Scope) (env : Env) : List (Str × Addr) := (scope.names.filterMap fun p => if p.2 == .free then (env.cells.lookup p.1).map fun a => (p.1, a) else none).reverse
theorem closureFor_eq {scope : Scope} (h : (scope.names.all fun p => p.2 != .free || (env.cells.lookup p.1).isSome) = true) : closureFor scope env = pure (freeCells scope env) := by
  have key : ∀ (l : List (Str × NameKind)) (cs : List (Str × Addr)), (l.all fun p => p.2 != .free || (env.cells.lookup p.1).isSome) = true →
      (forIn l cs fun (x : Str × NameKind) (r : List (Str × Addr)) => if (x.2 == .free) = true then do let a ← cellOf env x.1; pure (ForInStep.yield ((x.1, a) :: r)) else pure (ForInStep.yield r) : Sem (List (Str × Addr)))
        = pure ((l.filterMap fun p => if p.2 == .free then (env.cells.lookup p.1).map fun a => (p.1, a) else none).reverse ++ cs) := by
    intro l
    induction l with
    | nil => intro cs _; rfl
    | cons p l ih =>
      intro cs h
      simp only [List.all_cons, Bool.and_eq_true] at h
      simp only [List.forIn_cons]
      by_cases q : (p.2 == .free) = true
      · simp only [q, if_true]
        have h1 : (env.cells.lookup p.1).isSome = true := by
          have := h.1
          simp only [Bool.or_eq_true] at this
          rcases this with e | e
          · simp only [bne, q] at e; cases e
          · exact e
        obtain ⟨a, ha⟩ := Option.isSome_iff_exists.mp h1
        rw [show cellOf env p.1 = pure a from by unfold cellOf; rw [ha]]
        show (forIn l ((p.1, a) :: cs) _ : Sem _) = _
        rw [ih _ h.2, List.filterMap_cons, if_pos q, ha]
        simp only [Option.map_some, List.reverse_cons, List.append_assoc, List.singleton_append]
      · simp only [if_neg q]
        show (forIn l cs _ : Sem _) = _
        rw [ih _ h.2, List.filterMap_cons, if_neg q]
  unfold closureFor freeCells
  have := key scope.names [] h
  rw [List.append_nil] at this
  exact congrArg (· >>= pure) this

theorem lookup_like {c : List (Str × Addr)} {x : Str} : ∀ {l : List (Str × Addr)}, (∀ p ∈ l, c.lookup p.1 = some p.2) → (∃ p ∈ l, p.1 = x) → l.lookup x = c.lookup x
  | [], _, h => by obtain ⟨p, hp, _⟩ := h; cases hp
  | p :: l, h1, h2 => by
    show ((p.1, p.2) :: l).lookup x = _
    rw [lookup_put]
    by_cases q : x = p.1
    · rw [if_pos q, q, h1 p List.mem_cons_self]
    · rw [if_neg q]
      refine lookup_like (fun p hp => h1 p (List.mem_cons_of_mem _ hp)) ?_
      obtain ⟨p', hp', e⟩ := h2
      rcases List.mem_cons.mp hp' with z | z
      · exact absurd (z ▸ e).symm q
      · exact ⟨p', z, e⟩
theorem lookup_filter {α : Type} (f : Str → Bool) (x : Str) : ∀ (l : List (Str × α)), (l.filter fun p => f p.1).lookup x = if f x = true then l.lookup x else none
  | [] => by simp
  | (y, v) :: l => by
    rw [List.filter_cons]
    by_cases q : f y = true
    · rw [if_pos q, lookup_put, lookup_put, lookup_filter f x l]
      by_cases z : x = y
      · subst z; simp [q]
      · simp [z]
    · rw [if_neg q, lookup_put, lookup_filter f x l]
      by_cases z : x = y
      · subst z; simp [q]
      · simp [z]
noncomputable def takesIn (scope : Scope) (x : Str) : Bool := scope.names.any fun q => q.1 == x && q.2 == .free
theorem freeCells_lookup {scope : Scope} {x : Str} {a : Addr} (h : takesIn scope x = true) (ha : env.cells.lookup x = some a) : (freeCells scope env).lookup x = some a := by
  rw [lookup_like (c := env.cells), ha]
  · intro p hp
    obtain ⟨q, hq, e⟩ := List.mem_filterMap.mp (List.mem_reverse.mp hp)
    split at e
    · obtain ⟨b, hb, rfl⟩ := Option.map_eq_some_iff.mp e; exact hb
    · cases e
  · obtain ⟨q, hq, e⟩ := List.any_eq_true.mp h
    simp only [Bool.and_eq_true, beq_iff_eq] at e
    refine ⟨(x, a), List.mem_reverse.mpr (List.mem_filterMap.mpr ⟨q, hq, ?_⟩), rfl⟩
    rw [e.1, e.2, ha]; rfl

theorem Rep.withCells {ρ φ s cl} (r : Rep Γ env ρ φ st s) (h : ∀ (x : Str) (k : Nat), cl.lookup x = some k → ∃ a : Addr, env.cells.lookup x = some a ∧ ρ[k]? = some a) : Rep Γ env ρ φ { st with cl := cl } s :=
  ⟨r.same, r.base, r.len, r.nodup, r.freshR, r.freshF, r.disj, r.heap, r.own, r.live, r.frame, h, r.pins⟩

theorem comp_core {elt target iter : Expr} {ifs : List Expr} {gs : List Comprehension} {scope : Scope} {pos : Pos} {A : Around} {s1 : Shared} {ρ1 φ : List Addr} {st1 : St} {v : V} {a : Value} {vs : List V} {P : List V → Prop} {RR : Value → Addr → Result → Shared → Prop} {E : Value → Shared → Prop}
    (hcell : (scope.names.all fun x => x.2 != .cell) = true) (hkind : scope.kind = .function)
    (r1 : Rep Γ env ρ1 φ st1 s1) (hA : AOk n A) (v1 : VR Γ.prog Γ.w ρ1 φ s1.heap v a) (hi : Itr v vs)
    (q : ∀ C, CL Γ n (compEnvC scope (freeCells scope env) C env) { loc := [], cl := st1.cl.filter (fun p => takesIn scope p.1), heap := st1.heap ++ [.list []], pin := st1.pin } (.ListComp elt (⟨target, iter, ifs, 0⟩ :: gs) scope pos) 0 vs st1.heap.length
      fun st' => ∃ xs, st'.heap = st1.heap ++ [.list xs] ∧ Fzs xs ∧ P xs)
    (k : ∀ xs C D s', Rep Γ env ρ1 (C :: φ) st1 s' → C ∉ φ → C ∉ ρ1 → s1.heap.get? C = none → Ext env.locals ρ1 ρ1 s1.heap s'.heap → Up ρ1 φ ρ1 (C :: φ) s1.heap s'.heap → VR Γ.prog Γ.w ρ1 (C :: φ) s'.heap (.list xs) (.ref D) → (∃ m, s'.heap.Ns C m) → P xs → RR (.ref D) C (.ok .next) s') :
    wpAny (model Γ.prog Γ.w) A (pyIter a) (fun it s₂ => wpAny (model Γ.prog Γ.w) A (newList []) (fun acc s₃ =>
      wpAny (model Γ.prog Γ.w) A (newFunctionEnv scope env.globals (freeCells scope env) [] env.qual none .none (some env)) (fun cenv s₄ =>
        codeAny (model Γ.prog Γ.w) A (.compStart (.ListComp elt (⟨target, iter, ifs, 0⟩ :: gs) scope pos) 0 it acc { cenv with scope := relabel scope env }) (RR acc cenv.locals) s₄) E s₃) E s₂) E s1 := by
  refine r1.iter hA.handled v1 hi fun it fp Pw Sx h' hit kk r2 W hSx hlv hfp hP => ?_
  refine wpAny_newObj_type (wpAny_newFunctionEnv (fun x hx => by simpa using List.all_eq_true.mp hcell x hx) (by intro y hy; simp at hy) (fun h₁ hns hsb => ?_) hkind)
  dsimp only at hns hsb ⊢
  have k1 : ∀ b o, h'.get? b = some o → (h'.push (listOf #[] 0)).get? b = some o := fun b o e => Heap.get?_push_of_some _ e
  have hDn := size_none h'
  obtain ⟨x3, r3⟩ := r2.add (tk := s1.toks) (o := .list []) hDn k1 (.list (n := 0) (Heap.get?_push_size _ rfl) .nil)
  generalize hD : h'.objs.size = D at hDn x3 r3
  generalize hH : h'.push (listOf #[] 0) = H at k1 x3 r3
  have hH' : h'.push { cls := Value.type "list", dict := none, data := Data.seq ([] : List Value).toArray } = H := hH
  rw [hH'] at hns hsb
  have hCn := size_none H
  have hDs : s1.heap.get? D = none := by
    cases e : s1.heap.get? D with
    | none => rfl
    | some o => rw [kk D o e] at hDn; cases hDn
  generalize hC : H.objs.size = C at hns hsb hCn
  have hk2 : ∀ b o, H.get? b = some o → h₁.get? b = some o := fun b o e => hsb.extBut b o (fun z => by rw [z, hCn] at e; cases e) (Heap.get?_push_of_some _ e)
  have hCs : s1.heap.get? C = none := by
    cases e : s1.heap.get? C with
    | none => rfl
    | some o => rw [k1 _ _ (kk C o e)] at hCn; cases hCn
  have hitH : ∃ o, h'.get? it = some o := let ⟨o, e, _⟩ := hlv _ _ hSx; ⟨o, e⟩
  have hitC : it ≠ C := fun z => by obtain ⟨o, e⟩ := hitH; rw [z] at e; rw [k1 _ _ e] at hCn; cases hCn
  have hall : ∀ b o, s1.heap.get? b = some o → h₁.get? b = some o := fun b o e => hk2 _ _ (k1 _ _ (kk b o e))
  have hitφ : it ∉ φ := fun z => by obtain ⟨o, e⟩ := r1.live it z; rw [hit] at e; cases e
  have hCφ : C ∉ φ := fun z => by obtain ⟨o, e⟩ := r1.live C z; rw [hCs] at e; cases e
  have hCρ : C ∉ ρ1 := fun z => by obtain ⟨o, e⟩ := r1.liveR z; rw [hCs] at e; cases e
  have live2 : ∀ b o, s1.heap.get? b = some o → b ≠ D ∧ b ≠ C := fun b o e => ⟨fun z => (by rw [z, hDs] at e; cases e), fun z => (by rw [z, hCs] at e; cases e)⟩
  have r4 := (((r3.enter (env' := compEnvC scope (freeCells scope env) C env) (tk := s1.toks) (loc := []) hCn hns hk2 (fun x v e => by simp at e)).perm (φ' := it :: C :: φ) (fun a => by simp only [compEnvC, List.mem_cons]; exact or_left_comm)).withCells (cl := st1.cl.filter (fun p => takesIn scope p.1)) (fun x j e => by
    rw [lookup_filter (takesIn scope)] at e
    split at e
    · rename_i hx
      obtain ⟨b, e1, e2⟩ := r1.cells x j e
      exact ⟨b, freeCells_lookup hx e1, pre_get (List.prefix_append ..) e2⟩
    · cases e))
  have main := q C A s1.heap { s1 with heap := h₁, toks := s1.toks } (ρ1 ++ [D]) (C :: φ) it fp Pw Sx D hA hit hall r4 List.mem_cons_self (by simp [hitC, hitφ]) W
    (W.frame _ _ _ hSx fun b _ o e => hk2 _ _ (k1 _ _ e)) (fun i h hs => let ⟨o, e, _⟩ := hlv i h hs; ⟨o, e⟩) (goes_of hlv)
    (fun b hb => (hfp b hb).imp id fun ⟨h1, h2, o, e⟩ => ⟨by simp [h1, (live2 b o e).1], by simp [h2, (live2 b o e).2], o, e⟩)
    (fun i v' hp => let ⟨u, e, hv⟩ := hP i v' hp; ⟨u, e, hv.up ⟨List.prefix_append .., fun b o e h1 h2 => ⟨e, by simp [h1, (live2 b o e).1], by simp [h2, (live2 b o e).2]⟩⟩⟩)
    (by rw [← r1.len]; simp)
  have fin : codeAny (model Γ.prog Γ.w) A (.compLoop (.ListComp elt (⟨target, iter, ifs, 0⟩ :: gs) scope pos) 0 (.ref it) (.ref D) (compEnvC scope (freeCells scope env) C env)) (RR (.ref D) C) { s1 with heap := h₁, toks := s1.toks } := by
    refine codeAny_mono main fun res s7 hr => ?_
    obtain ⟨ρ7, st7, rfl, x7, r7, xs, hst, hfz, hp⟩ := hr
    obtain rfl : ρ7 = ρ1 ++ [D] := by
      refine (List.IsPrefix.eq_of_length x7.pre ?_).symm
      rw [r7.len, hst]; simp [r1.len]
    have kept : ∀ b o, s1.heap.get? b = some o → b ∉ ρ1 → s7.heap.get? b = some o := fun b o e h1 => x7.kept b o e (by simp [h1, (live2 b o e).1]) (live2 b o e).2
    obtain ⟨z1, z2, z3⟩ := r1.pop r7 hst hfz (fun a h => List.mem_cons_of_mem _ h) (List.mem_cons_of_mem _ r1.own) kept (fun b o e h2 => by simp [h2, (live2 b o e).2]) hDs
    exact k xs C D s7 z1 hCφ hCρ hCs ⟨List.prefix_rfl, fun _ h => .inl h, fun b o e h1 _ => kept b o e h1, x7.live⟩ z2 z3 (r7.frame.imp fun m h => h.1) hp
  subst hD
  exact compStart_any rfl rfl fin fun E => W.self 0 _ _ _ (W.frame _ _ _ hSx fun b _ o e => hk2 _ _ (k1 _ _ e)) fin

/-- a comprehension's parts, as the text has them -/
noncomputable def CompOk (scope : Scope) (env : Env) (iter : Expr) : Prop :=
  (∀ x, foldedSetIterable iter env x = pure x) ∧ (scope.names.all fun p => p.2 != .free || (env.cells.lookup p.1).isSome) = true ∧ (scope.names.all fun x => x.2 != .cell) = true ∧ scope.kind = .function ∧
    (scope.names.all fun x => x.2 != .local || scope.names.lookup x.1 == some .local) = true
theorem CompOk.names {scope : Scope} {iter} (h : CompOk scope env iter) : ∀ x ∈ scope.names, x.2 = .local → scope.names.lookup x.1 = some .local := fun x hx hl => by
  have := List.all_eq_true.mp h.2.2.2.2 x hx
  rw [hl] at this
  simpa using this
noncomputable def Cmp (Γ : Gam) (n : Nat) (env : Env) (st : St) (elt : Expr) (gens : List Comprehension) (scope : Scope) (pos : Pos) (iter : Expr) (Q : List V → St → Prop) : Prop :=
  Ev Γ n env st iter fun v st1 => ∃ vs, Itr v vs ∧ ∀ C, CL Γ n (compEnvC scope (freeCells scope env) C env) { loc := [], cl := st1.cl.filter (fun p => takesIn scope p.1), heap := st1.heap ++ [.list []], pin := st1.pin } (.ListComp elt gens scope pos) 0 vs st1.heap.length
    fun st' => ∃ xs, st'.heap = st1.heap ++ [.list xs] ∧ Fzs xs ∧ Q xs st1
theorem Ev.comp {elt target iter : Expr} {ifs : List Expr} {gs : List Comprehension} {scope : Scope} {pos : Pos} {Q : V → St → Prop} (ok : CompOk scope env iter)
    (h : Cmp Γ n env st elt (⟨target, iter, ifs, 0⟩ :: gs) scope pos iter fun xs st1 => Q (.list xs) st1) : Ev Γ n env st (.ListComp elt (⟨target, iter, ifs, 0⟩ :: gs) scope pos) Q := fun A s ρ φ hA r => by
  rw [eval_ListComp]
  refine wpAny_comprehension_free (e := .ListComp elt (⟨target, iter, ifs, 0⟩ :: gs) scope _) (g := ⟨target, iter, ifs, 0⟩) (gs := gs) (use := Option.none) rfl ok.1 (closureFor_eq ok.2.1) ok.2.2.2.1 ok.names (J.use h hA r fun a s1 ρ1 v st1 x1 r1 v1 q1 => ?_)
  obtain ⟨vs, hi, q⟩ := q1
  refine comp_core (RR := fun acc C => compPost (model Γ.prog Γ.w) A (fun _ _ => False) Option.none (Post Γ env ρ φ s.heap (VR Γ.prog Γ.w) Q) acc C) ok.2.2.1 ok.2.2.2.1 r1 hA v1 hi q ?_
  intro xs C D s7 r7 hCφ hCρ hCs x7 u7 v7 hm hq
  obtain ⟨m, hm⟩ := hm
  refine ⟨m, hm, fun h' hs' => ?_⟩
  have k' : ∀ b o, b ≠ C → s7.heap.get? b = some o → h'.get? b = some o := fun b o hb e => hs'.extBut b o hb e
  obtain ⟨r8, u8⟩ := r7.drop (tk := s7.toks) r1.own hCφ k'
  refine Post.mk (x1.trans (x7.hid hCs k')) r8 (v7.up u8) hq

theorem Ex.assignC {x p elt target iter} {ifs : List Expr} {gs : List Comprehension} {scope : Scope} {cpos pos : Pos} {Q : Fl → St → Prop} (ok : CompOk scope env iter)
    (hs : swapsWith (.ListComp elt (⟨target, iter, ifs, 0⟩ :: gs) scope cpos) (some (.Name x p)) pos.line env = pure true)
    (h : Cmp Γ n env st elt (⟨target, iter, ifs, 0⟩ :: gs) scope cpos iter fun xs st1 => Sto Γ n env st1 x (.list xs) (Q .next)) : Ex Γ n env st (.Assign [.Name x p] (.ListComp elt (⟨target, iter, ifs, 0⟩ :: gs) scope cpos) pos) Q := fun A s ρ φ hA r => by
  rw [PySem.exec_Assign_Name_used x p _ pos hs]
  refine wpAny_bind (wpAny_standAt (wpAny_bind ?_))
  show wpAny _ A (do let _ ← comprehension (.ListComp elt (⟨target, iter, ifs, 0⟩ :: gs) scope cpos) scope env _ (newList []) false (eval iter env) (some (PySem.assign (.Name x p) env))) _ _ s
  refine wpAny_bind (wpAny_mono (wpAny_comprehension_free (e := .ListComp elt (⟨target, iter, ifs, 0⟩ :: gs) scope _) (g := ⟨target, iter, ifs, 0⟩) (gs := gs) (use := some (PySem.assign (.Name x p) env)) (Q := fun _ s' => Post Γ env ρ φ s.heap (FR Γ) Q .next s') rfl ok.1 (closureFor_eq ok.2.1) ok.2.2.2.1 ok.names
    (J.use h hA r fun a s1 ρ1 v st1 x1 r1 v1 q1 => ?_)) (fun _ s' hq => wpAny_pure (wpAny_pure hq)) fun _ _ e => e)
  obtain ⟨vs, hi, q⟩ := q1
  refine comp_core (RR := fun acc C => compPost (model Γ.prog Γ.w) A (fun _ _ => False) (some (PySem.assign (.Name x p) env)) (fun _ s' => Post Γ env ρ φ s.heap (FR Γ) Q .next s') acc C) ok.2.2.1 ok.2.2.2.1 r1 hA v1 hi q ?_
  intro xs C D s7 r7 hCφ hCρ hCs x7 u7 v7 hm hq
  obtain ⟨m, hm⟩ := hm
  have hCL : C ≠ env.locals := fun z => hCφ (z ▸ r1.own)
  refine wpAny_mono (wpAny_assign_Name (hq A s7 ρ1 (C :: φ) (.ref D) hA r7 v7)) (fun _ s8 ⟨st8, x8, r8, q8⟩ => ?_) fun _ _ z => z
  refine ⟨m, hm.at' fun o e => x8.kept C o e hCρ hCL, fun h' hs' => ?_⟩
  have k' : ∀ b o, b ≠ C → s8.heap.get? b = some o → h'.get? b = some o := fun b o hb e => hs'.extBut b o hb e
  obtain ⟨r9, u9⟩ := r8.drop (tk := s8.toks) r1.own hCφ k'
  exact Post.mk (x1.trans ((x7.trans x8).hid hCs k')) r9 (b := Fl.next) rfl q8

theorem CL.last {elt : Expr} {gens : List Comprehension} {scope : Scope} {pos : Pos} {d k0 : Nat} {vs : List V} {P : St → Prop} {target iter : Expr} {ifs : List Expr} (hg : gens[d]? = some ⟨target, iter, ifs, 0⟩) (hn : gens[d + 1]? = none)
    (I : Nat → St → Prop) (hI0 : I 0 st)
    (turn : ∀ i st' u, I i st' → vs[i]? = some u → Asg Γ n env st' target u fun st1 => Ifs Γ n env st1 ifs fun b st2 => if b = true then Ev Γ n env st2 elt fun v st3 => ∃ xs, st3.heap[k0]? = some (.list xs) ∧ xs.length ≤ 1000 ∧ I (i + 1) (st3.upd k0 (.list (xs ++ [v]))) else I (i + 1) st2)
    (done : ∀ st', I vs.length st' → P st') : CL Γ n env st (.ListComp elt gens scope pos) d vs k0 P :=
  CL.core (fun it acc => compTurn_last elt gens scope pos d it acc env hg hn) I hI0 (fun i st' u hI hu A s ρ φ a hA r hv => wpAny_mono (turn i st' u hI hu A s ρ φ a hA r hv) (fun _ s1 ⟨st1, x1, r1, q1⟩ => ⟨st1, x1, r1, q1.mono fun b st2 q2 => by
    cases b
    · simpa using q2
    · simp only [if_true] at q2 ⊢; exact TL.last q2⟩) fun _ _ z => z) done
theorem CL.more {elt : Expr} {gens : List Comprehension} {scope : Scope} {pos : Pos} {d k0 : Nat} {vs : List V} {P : St → Prop} {target iter target' iter' : Expr} {ifs ifs' : List Expr} (hg : gens[d]? = some ⟨target, iter, ifs, 0⟩) (hn : gens[d + 1]? = some ⟨target', iter', ifs', 0⟩) (hs : ∀ x, foldedSetIterable iter' env x = pure x)
    (I : Nat → St → Prop) (hI0 : I 0 st)
    (turn : ∀ i st' u, I i st' → vs[i]? = some u → Asg Γ n env st' target u fun st1 => Ifs Γ n env st1 ifs fun b st2 => if b = true then Ev Γ n env st2 iter' fun v st3 => ∃ vs', Itr v vs' ∧ CL Γ n env st3 (.ListComp elt gens scope pos) (d + 1) vs' k0 (I (i + 1)) else I (i + 1) st2)
    (done : ∀ st', I vs.length st' → P st') : CL Γ n env st (.ListComp elt gens scope pos) d vs k0 P :=
  CL.core (fun it acc => compTurn_more elt gens scope pos d it acc env hg hn) I hI0 (fun i st' u hI hu A s ρ φ a hA r hv => wpAny_mono (turn i st' u hI hu A s ρ φ a hA r hv) (fun _ s1 ⟨st1, x1, r1, q1⟩ => ⟨st1, x1, r1, q1.mono fun b st2 q2 => by
    cases b
    · simpa using q2
    · simp only [if_true] at q2 ⊢; exact TL.more hn rfl hs q2⟩) fun _ _ z => z) done

end

end

section
open PySem PySem.Calls PyProof.Rows PySem.W
section
variable {Γ : Gam} {n : Nat} {env : Env} {st : St} {Q : V → St → Prop}

theorem Cal.range1 {a : Int} (h : Q (.rng 0 a) st) : Cal Γ n env st (.val (.type "range")) [.int a] Q := by
  intro A s ρ φ f as hA r hf hv
  obtain rfl := hf.val_inv
  cases hv with | cons h1 h2 => cases h2; cases h1 with | int _ t1 => exact PySem.call_range_1 (by
    have k : ∀ b o, s.heap.get? b = some o → (s.heap.push { cls := .type "range", data := .fields #[.int 0 s.toks, .int a t1, .int 1 (s.toks + 1)] }).get? b = some o := fun b o e => Heap.get?_push_of_some _ e
    have hf := r.fresh (size_none s.heap)
    exact Post.mk (Ext.grow k) (r.grow (tk := s.toks + 1 + 1) k) (.rng (Heap.get?_push_size _ rfl) hf.1 hf.2) h)
theorem Cal.range2 {a b : Int} (h : Q (.rng a b) st) : Cal Γ n env st (.val (.type "range")) [.int a, .int b] Q := by
  intro A s ρ φ f as hA r hf hv
  obtain rfl := hf.val_inv
  cases hv with | @cons _ _ _ _ h1 h2 => cases h2 with | @cons _ _ _ _ h2 h3 => cases h3; cases h1 with | int _ t1 => cases h2 with | int _ t2 => exact PySem.call_range_2 (by
    have k : ∀ c o, s.heap.get? c = some o → (s.heap.push { cls := .type "range", data := .fields #[.int a t1, .int b t2, .int 1 s.toks] }).get? c = some o := fun b o e => Heap.get?_push_of_some _ e
    have hf := r.fresh (size_none s.heap)
    exact Post.mk (Ext.grow k) (r.grow (tk := s.toks + 1) k) (.rng (Heap.get?_push_size _ rfl) hf.1 hf.2) h)
theorem Cal.lenL {v vs} (hl : st.lst v vs) (hs : vs.length ≤ 1000) (h : Q (.int vs.length) st) : Cal Γ n env st (.val (.builtin "len")) [v] Q := by
  intro A s ρ φ f as hA r hf hv
  obtain rfl := hf.val_inv
  cases hv with | cons h1 h2 =>
    cases h2
    obtain ⟨b, its, m, rfl, e, g⟩ := r.lst hl h1
    have hlen : its.size = vs.length := by rw [g.length]; simp
    exact Calls.call_len_list (isList_of e) (by omega) (by rw [hlen]; exact Post.tok r (.int _ _) h)
theorem Cal.lenS {x} (hs : x.length ≤ 1000) (h : Q (.int x.length) st) : Cal Γ n env st (.val (.builtin "len")) [.str x] Q := by
  intro A s ρ φ f as hA r hf hv
  obtain rfl := hf.val_inv
  cases hv with | cons h1 h2 => cases h2; cases h1; exact PyProof.Rows.len_str (by omega) (Post.tok r (.int _ _) h)
theorem Cal.abs {a : Int} (h : Q (.int (if a < 0 then -a else a)) st) : Cal Γ n env st (.val (.builtin "abs")) [.int a] Q := by
  intro A s ρ φ f as hA r hf hv
  obtain rfl := hf.val_inv
  cases hv with | cons h1 h2 => cases h2; cases h1; exact PyProof.Rows.call_abs_int fun u tk => Post.tok r (.int _ _) h
theorem Cal.max2 {a b : Int} (h : Q (.int (if b > a then b else a)) st) : Cal Γ n env st (.val (.builtin "max")) [.int a, .int b] Q := by
  intro A s ρ φ f as hA r hf hv
  obtain rfl := hf.val_inv
  cases hv with | cons h1 h2 => cases h2 with | cons h2 h3 => cases h3; cases h1; cases h2; exact max_two_ints hA.handled fun h' tk k => Post.mk (Ext.grow k) (r.grow k) (by split <;> exact .int _ _) h
theorem Cal.min2 {a b : Int} (h : Q (.int (if b < a then b else a)) st) : Cal Γ n env st (.val (.builtin "min")) [.int a, .int b] Q := by
  intro A s ρ φ f as hA r hf hv
  obtain rfl := hf.val_inv
  cases hv with | cons h1 h2 => cases h2 with | cons h2 h3 => cases h3; cases h1; cases h2; exact min_two_ints hA.handled fun h' tk k => Post.mk (Ext.grow k) (r.grow k) (by split <;> exact .int _ _) h

theorem richF_gt {prog : Program} {w : World} {A : Around} {E : Value → Shared → Prop} {s : Shared} {a b : UInt64} {t u : Tok} {Q : Value → Shared → Prop} (h : Q (.bool (Float64.cmp a b == some Ordering.gt)) s) : wpAny (model prog w) A (richCompare .Gt (.float a t) (.float b u)) Q E s :=
  richCompare_gives (op := .Gt) (typeIs_float s a t) (typeIs_float s b u) F.slot_float_gt F.entry_float_gt (F.args_float_gt_2 _ _) (AutoFloatG4.float___gt___float_float_0 a t b u) (fun x => nomatch x) h
theorem richF_lt {prog : Program} {w : World} {A : Around} {E : Value → Shared → Prop} {s : Shared} {a b : UInt64} {t u : Tok} {Q : Value → Shared → Prop} (h : Q (.bool (Float64.cmp a b == some Ordering.lt)) s) : wpAny (model prog w) A (richCompare .Lt (.float a t) (.float b u)) Q E s :=
  richCompare_gives (op := .Lt) (typeIs_float s a t) (typeIs_float s b u) F.slot_float_lt F.entry_float_lt (F.args_float_lt_2 _ _) (AutoFloatG5.float___lt___float_float_0 a t b u) (fun x => nomatch x) h

/-- the best of three floats, as max and min find it -/
noncomputable def best3 (o : Ordering) (a b c : UInt64) : UInt64 := [a, b, c].getD (argBest (fun i j => Float64.cmp ([a, b, c].getD i 0) ([a, b, c].getD j 0) == some o) 2) 0
theorem at3 {a b c : UInt64} {t u x : Tok} {i : Nat} {v : Value} (h : (#[Value.float a t, .float b u, .float c x] : Array Value)[i]? = some v) : ∃ y, v = .float ([a, b, c].getD i 0) y := by
  match i, h with
  | 0, h => simp at h; exact ⟨t, h.symm⟩
  | 1, h => simp at h; exact ⟨u, h.symm⟩
  | 2, h => simp at h; exact ⟨x, h.symm⟩
  | i + 3, h => simp at h
theorem Cal.max3F {a b c : UInt64} (h : Q (.flt (best3 .gt a b c)) st) : Cal Γ n env st (.val (.builtin "max")) [.flt a, .flt b, .flt c] Q := by
  intro A s ρ φ f as hA r hf hv
  obtain rfl := hf.val_inv
  cases hv with | cons h1 h2 => cases h2 with | cons h2 h3 => cases h3 with | cons h3 h4 =>
    cases h4; cases h1 with | flt _ t => cases h2 with | flt _ u => cases h3 with | flt _ x =>
    have hT : (s.heap.push { cls := .type "tuple", data := .seq #[.float a t, .float b u, .float c x] }).IsTuple s.heap.objs.size #[.float a t, .float b u, .float c x] := ⟨_, Heap.get?_push_size _ rfl, rfl, 0, rfl⟩
    refine call_max_three (wpAny_pyIter_tuple hT ?_)
    have hsz : (s.heap.push { cls := .type "tuple", data := .seq #[.float a t, .float b u, .float c x] }).objs.size = s.heap.objs.size + 1 := Heap.size_push ..
    refine ⟨_, [_, s.heap.objs.size], [_], _, _, _, (fun i j => Float64.cmp ([a, b, c].getD i 0) ([a, b, c].getD j 0) == some Ordering.gt), rfl, Walks.tuple (A := A.in1) hA.handled _ s.heap.objs.size (by rw [hsz]; exact Nat.ne_of_lt (Nat.lt_succ_self _)) #[.float a t, .float b u, .float c x],
      ⟨⟨_, Heap.get?_push_size _ rfl, rfl, rfl⟩, hT.push _⟩, fun d hd => ?_, by simp, fun i j vi vj s Q E hi hj hq => ?_, fun v h' tk hP hk => ?_⟩
    · show d < ((s.heap.push _).push _).objs.size
      rw [Heap.size_push, hsz]
      rcases List.mem_cons.mp hd with rfl | hd
      · rw [hsz]; exact Nat.lt_succ_self _
      · rcases List.mem_cons.mp hd with rfl | hd
        · exact Nat.lt_succ_of_lt (Nat.lt_succ_self _)
        · cases hd
    · obtain ⟨_, rfl⟩ := at3 hi
      obtain ⟨_, rfl⟩ := at3 hj
      exact richF_gt hq
    · have hold : ∀ d o, s.heap.get? d = some o → h'.get? d = some o := fun d o e => by
        refine hk d o (fun hm => ?_) (Heap.get?_push_of_some _ (Heap.get?_push_of_some _ e))
        rcases List.mem_cons.mp hm with e1 | hm
        · have := Heap.lt_size e; rw [e1, hsz] at this; exact Nat.lt_irrefl _ (Nat.lt_of_succ_lt this)
        · cases hm
      obtain ⟨y, rfl⟩ := at3 hP
      exact Post.mk (Ext.grow hold) (r.grow hold) (.flt _ y) h
theorem Cal.min3F {a b c : UInt64} (h : Q (.flt (best3 .lt a b c)) st) : Cal Γ n env st (.val (.builtin "min")) [.flt a, .flt b, .flt c] Q := by
  intro A s ρ φ f as hA r hf hv
  obtain rfl := hf.val_inv
  cases hv with | cons h1 h2 => cases h2 with | cons h2 h3 => cases h3 with | cons h3 h4 =>
    cases h4; cases h1 with | flt _ t => cases h2 with | flt _ u => cases h3 with | flt _ x =>
    have hT : (s.heap.push { cls := .type "tuple", data := .seq #[.float a t, .float b u, .float c x] }).IsTuple s.heap.objs.size #[.float a t, .float b u, .float c x] := ⟨_, Heap.get?_push_size _ rfl, rfl, 0, rfl⟩
    refine call_min_three (wpAny_pyIter_tuple hT ?_)
    have hsz : (s.heap.push { cls := .type "tuple", data := .seq #[.float a t, .float b u, .float c x] }).objs.size = s.heap.objs.size + 1 := Heap.size_push ..
    refine ⟨_, [_, s.heap.objs.size], [_], _, _, _, (fun i j => Float64.cmp ([a, b, c].getD i 0) ([a, b, c].getD j 0) == some Ordering.lt), rfl, Walks.tuple (A := A.in1) hA.handled _ s.heap.objs.size (by rw [hsz]; exact Nat.ne_of_lt (Nat.lt_succ_self _)) #[.float a t, .float b u, .float c x],
      ⟨⟨_, Heap.get?_push_size _ rfl, rfl, rfl⟩, hT.push _⟩, fun d hd => ?_, by simp, fun i j vi vj s Q E hi hj hq => ?_, fun v h' tk hP hk => ?_⟩
    · show d < ((s.heap.push _).push _).objs.size
      rw [Heap.size_push, hsz]
      rcases List.mem_cons.mp hd with rfl | hd
      · rw [hsz]; exact Nat.lt_succ_self _
      · rcases List.mem_cons.mp hd with rfl | hd
        · exact Nat.lt_succ_of_lt (Nat.lt_succ_self _)
        · cases hd
    · obtain ⟨_, rfl⟩ := at3 hi
      obtain ⟨_, rfl⟩ := at3 hj
      exact richF_lt hq
    · have hold : ∀ d o, s.heap.get? d = some o → h'.get? d = some o := fun d o e => by
        refine hk d o (fun hm => ?_) (Heap.get?_push_of_some _ (Heap.get?_push_of_some _ e))
        rcases List.mem_cons.mp hm with e1 | hm
        · have := Heap.lt_size e; rw [e1, hsz] at this; exact Nat.lt_irrefl _ (Nat.lt_of_succ_lt this)
        · cases hm
      obtain ⟨y, rfl⟩ := at3 hP
      exact Post.mk (Ext.grow hold) (r.grow hold) (.flt _ y) h
theorem Cal.intF {x : UInt64} {sg : Bool} {m : Nat} {e : Int} (hd : Float64.decode x = .fin sg m e) (h : Q (.int (Float64.truncOf sg m e)) st) : Cal Γ n env st (.val (.type "int")) [.flt x] Q := by
  intro A s ρ φ f as hA r hf hv
  obtain rfl := hf.val_inv
  cases hv with | cons h1 h2 => cases h2; cases h1; exact PySem.call_int_float hd (Post.tok r (.int _ _) h)

-- lists of ints
theorem VRs.ints {p w ρ φ h} : ∀ {ns : List Int} {as : List Value}, VRs p w ρ φ h (ns.map V.int) as → IntsAre as ns
  | [], _, .nil => .nil
  | n :: ns, _, .cons x r => by cases x with | int _ t => exact .cons _ t (VRs.ints r)
theorem VRs.of_ints {p w ρ φ h} : ∀ {ns : List Int} {as : List Value}, IntsAre as ns → VRs p w ρ φ h (ns.map V.int) as
  | _, _, .nil => .nil
  | _, _, .cons _ t r => .cons (.int _ t) (VRs.of_ints r)

theorem ints_items {as : List Value} {ns : List Int} (h : IntsAre as ns) : ∃ xs : List (Int × Tok), as = xs.map (fun p => Value.int p.1 p.2) ∧ ns = xs.map (·.1) := by
  induction h with
  | nil => exact ⟨[], rfl, rfl⟩
  | cons n t _ ih => obtain ⟨xs, e1, e2⟩ := ih; exact ⟨(n, t) :: xs, by simp [e1], by simp [e2]⟩
theorem Cal.sum {v} {ns : List Int} (hl : st.lst v (ns.map .int)) (h : Q (.int ns.sum) st) : Cal Γ n env st (.val (.builtin "sum")) [v] Q := by
  intro A s ρ φ f as hA r hf hv
  obtain rfl := hf.val_inv
  cases hv with | cons h1 h2 =>
    cases h2
    obtain ⟨b, its, m, rfl, e, g⟩ := r.lst hl h1
    obtain ⟨xs, e1, e2⟩ := ints_items g.ints
    have hits : its = intItems xs.toArray := by
      apply Array.toList_inj.mp
      rw [e1]; simp [intItems]
    subst hits
    refine sum_intListG hA.handled (isList_of e) fun h' tk t' k => ?_
    rw [preSum_eq, List.take_of_length_le (by simp)]
    exact Post.mk (Ext.grow k) (r.grow k) (.int _ _) (by simpa [e2] using h)
theorem Cal.sorted {v} {ns : List Int} (hl : st.lst v (ns.map .int)) (hs : ns.length < 64) (h : ∀ ns' : List Int, ns'.Perm ns → ns'.Pairwise (· ≤ ·) → Q (.list (ns'.map .int)) st) : Cal Γ n env st (.val (.builtin "sorted")) [v] Q := by
  intro A s ρ φ f as hA r hf hv
  obtain rfl := hf.val_inv
  cases hv with | cons h1 h2 =>
    cases h2
    obtain ⟨b, its, m, rfl, e, g⟩ := r.lst hl h1
    refine sorted_ints (vs := its.toList) (ns := ns) (by simpa using isList_of e) g.ints (by have := g.length; rw [← this]; simpa using hs) fun out ns' hi hp ho => ?_
    have k : ∀ b o, s.heap.get? b = some o → (sortedAll s.heap its.toList out).get? b = some o := fun b o e => sortedAll_old e
    obtain ⟨m', e'⟩ := sortedAll_at s.heap its.toList out
    have hn : s.heap.get? (s.heap.objs.size + 1) = none := by
      cases e : s.heap.get? (s.heap.objs.size + 1) with
      | none => rfl
      | some o => exact absurd (Heap.lt_size e) (Nat.not_lt.mpr (Nat.le_succ _))
    have hf := r.fresh hn
    exact Post.mk (Ext.grow k) (r.grow (tk := s.toks) k) (.list e' hf.1 hf.2 (VRs.of_ints hi)) (h ns' hp ho)

theorem map_listOf (f : Array Value → Array Value) (its : Array Value) (m : Nat) : Obj.mapSeq f (listOf its m) = listOf (f its) (if (f its).size == its.size then m else m + 1) := rfl
noncomputable def insF (j : Int) (c : Value) (xs : Array Value) : Array Value := have k := if j < 0 then (j + (xs.size : Int)).toNat else min j.toNat xs.size; (xs.extract 0 k).push c ++ xs.extract k
/-- xs.insert(j, v) -/
theorem VRs.insert {p w ρ φ h} {vs as v a} (g : VRs p w ρ φ h vs as) (x : VR p w ρ φ h v a) (j : Nat) : VRs p w ρ φ h (vs.take j ++ v :: vs.drop j) (as.take j ++ a :: as.drop j) := (g.take j).append (.cons x (g.drop j))
theorem Cal.insert {k : Nat} {j : Int} {vs v} (ho : st.heap[k]? = some (.list vs)) (h0 : 0 ≤ j) (hj : j ≤ vs.length) (hs : vs.length ≤ 1000) (h : Q .none (st.upd k (.list (vs.take j.toNat ++ v :: vs.drop j.toNat)))) :
    Cal Γ n env st (.val (.builtin "list.insert")) [.obj k, .int j, v] Q := by
  intro A s ρ φ f as hA r hf hv
  obtain rfl := hf.val_inv
  cases hv with | cons h1 h2 => cases h2 with | cons h2 h3 => cases h3 with | @cons _ c _ _ h3 h4 =>
    cases h4; cases h2 with | int _ t => cases h1 with | @obj _ b e1 =>
    obtain ⟨b', e2, ho'⟩ := r.heap k _ ho
    rw [e1] at e2; cases e2
    cases ho' with
    | @list _ its m g1 g2 =>
      have hl := g2.length
      have hsz : its.size = vs.length := by rw [hl]; simp
      have hfun : insF j c its = (its.toList.take j.toNat ++ c :: its.toList.drop j.toNat).toArray := by
        apply Array.toList_inj.mp
        have hm : min j.toNat its.size = j.toNat := Nat.min_eq_left (by omega)
        simp only [insF, if_neg (show ¬ j < 0 by omega), hm]
        simp
        exact List.take_of_length_le (by simp)
      have hmap := map_listOf (insF j c) its m
      rw [hfun] at hmap
      obtain ⟨y1, y2⟩ := r.setL ho e1 g1 (insF j c) hmap (g2.insert h3 j.toNat)
      exact call_meets F.slot_list_insert ⟨_, g1, rfl⟩ F.entry_list_insert (F.args_list_insert_3 _ _ _) (AutoSeq1.list_insert_list_int_val_1 b its m j t c (by simp [Builtin.List.listFitsIndex]; omega) (by rw [sizeLine_eq]; omega))
        ⟨g1, Post.mk (b := V.none) y1 y2 VR.none h⟩
theorem Cal.append {k : Nat} {vs v} (ho : st.heap[k]? = some (.list vs)) (hs : vs.length ≤ 1000) (h : Q .none (st.upd k (.list (vs ++ [v])))) :
    Cal Γ n env st (.val (.builtin "list.append")) [.obj k, v] Q := by
  intro A s ρ φ f as hA r hf hv
  obtain rfl := hf.val_inv
  cases hv with | cons h1 h2 => cases h2 with | @cons _ c _ _ h2 h3 =>
    cases h3; cases h1 with | @obj _ b e1 =>
    obtain ⟨b', e2, ho'⟩ := r.heap k _ ho
    rw [e1] at e2; cases e2
    cases ho' with
    | @list _ its m g1 g2 =>
      refine wpAny_list_append_plain (items := its) ⟨m, g1⟩ (fun h' hp hs => ?_) (hsz := by have := g2.length; rw [sizeLine_eq]; simp at this; omega)
      obtain ⟨m', e'⟩ := hp
      have hm : b ∈ ρ := List.mem_of_getElem? e1
      obtain ⟨y1, y2⟩ := r.set (tk := s.toks) e1 (List.getElem?_eq_some_iff.mp ho).1 hs (Up.at hm hs) (.list (its := its.push c) (vs := vs ++ [v]) e' (by rw [Array.toList_push]; exact (g2.up (Up.at hm hs)).append (.cons (h2.up (Up.at hm hs)) .nil))) ⟨_, e'⟩
      exact Post.mk (b := V.none) y1 y2 VR.none h

end

end

section
open PySem PySem.Calls PyProof.Rows PySem.W
section
variable {Γ : Gam} {n : Nat} {env : Env} {st : St} {Q : V → St → Prop}

theorem AOk.room {A : Around} (h : AOk n A) : A.units + 64 < cLine := by
  have h1 := h.units
  have h2 : cLine = 9900 := by decide
  rw [h2]; omega
-- lists added, multiplied
theorem Op2.addL {v w vs ws} (h1 : st.lst v vs) (h2 : st.lst w ws) (hs : vs.length + ws.length ≤ 1000) (h : Q (.list (vs ++ ws)) st) : Op2 Γ n env st (binaryOp .Add) v w Q := by
  intro A s ρ φ a b hA r ha hb
  obtain ⟨a', its, m, rfl, e1, g1⟩ := r.lst h1 ha
  obtain ⟨b', its2, m2, rfl, e2, g2⟩ := r.lst h2 hb
  have l1 := g1.length
  have l2 := g2.length
  refine P.add_list e1 e2 ?_ (by rw [sizeLine_eq]; simp at l1 l2; omega)
  have k : ∀ b o, s.heap.get? b = some o → (s.heap.push (listOf (its ++ its2) 0)).get? b = some o := fun b o e => Heap.get?_push_of_some _ e
  have hf := r.fresh (size_none s.heap)
  exact Post.mk (Ext.grow k) (r.grow (tk := s.toks) k) (.list (n := 0) (Heap.get?_push_size _ rfl) hf.1 hf.2 (by rw [Array.toList_append]; exact (g1.append g2).up (Up.grow k))) h
theorem fold_rep (a : Value) : ∀ (k : Nat) (acc : Array Value), (List.foldl (fun x1 x2 => x1 ++ x2) acc (List.replicate k #[a])).toList = acc.toList ++ List.replicate k a
  | 0, acc => by simp
  | k + 1, acc => by rw [List.replicate_succ, List.foldl_cons, fold_rep a k, List.replicate_succ]; simp
theorem VRs.rep {p w ρ φ h v a} (x : VR p w ρ φ h v a) : ∀ k, VRs p w ρ φ h (List.replicate k v) (List.replicate k a)
  | 0 => .nil
  | k + 1 => .cons x (VRs.rep x k)
theorem mul_core {prog : Program} {w : World} {A : Around} {E : Value → Shared → Prop} {s : Shared} {l : Addr} {a : Value} {its : Array Value} {k : Nat} {x : Int} {u : Tok} {Q : Value → Shared → Prop}
    (hl : s.heap.get? l = some (listOf its k)) (hi : its = #[a]) (h0 : 0 ≤ x) (hx : x ≤ 1000)
    (h : ∀ out : Array Value, out.toList = List.replicate x.toNat a → Q (.ref s.heap.objs.size) { s with heap := s.heap.push (listOf out 0) }) :
    wpAny (model prog w) A (binaryOp .Mult (.ref l) (.int x u)) Q E s := by
  subst hi
  refine wpAny_binaryOp_repeat_ref (T := "list") (U := "int") (by decide) ⟨_, hl, rfl⟩ (fun s' => typeIs_int s' x u) noFill_list_mul F.fills_int_mul F.slot_int_rmul repeat_list F.slot_int_index.lookup
    (call_meets F.slot_int_rmul (typeIs_int s x u) F.entry_int_rmul (F.args_int_rmul_2 _ _) (int___rmul___int_list x u l #[a] k)
      ⟨hl, rfl, ⟨_, hl, rfl⟩, call_meets F.slot_list_mul ⟨_, hl, rfl⟩ F.entry_list_mul (F.args_list_mul_2 _ _)
        (AutoListH.list___mul___list_int_3 l #[a] k x u (by simp [Builtin.List.listFitsIndex]; omega) (by show ¬ 1 * x.toNat > _; omega) (by show decide (#[a].size * x.toNat > sizeLine) ≠ true; rw [sizeLine_eq]; simp; omega))
        ⟨hl, h _ ?_⟩⟩)
  rw [if_neg (by simp), fold_rep]
  rfl
theorem Op2.mulLF {v : V} {x : Int} (h0 : 0 ≤ x) (hx : x ≤ 1000) (h : Q (.list (List.replicate x.toNat v)) st) : Op2 Γ n env st (binaryOp .Mult) (.list [v]) (.int x) Q := by
  intro A s ρ φ a b hA r ha hb
  cases hb
  cases ha with | @list _ l its m e f1 f2 g =>
  obtain ⟨⟨c, hc⟩⟩ : Nonempty {c // its = #[c] ∧ VR Γ.prog Γ.w ρ φ s.heap v c} := by
    obtain ⟨its⟩ := its
    simp only at g
    cases g with | @cons _ c _ _ g1 g2 => cases g2; exact ⟨c, rfl, g1⟩
  refine mul_core e hc.1 h0 hx fun out ho => ?_
  have k : ∀ b o, s.heap.get? b = some o → (s.heap.push (listOf out 0)).get? b = some o := fun b o e => Heap.get?_push_of_some _ e
  have hf := r.fresh (size_none s.heap)
  exact Post.mk (Ext.grow k) (r.grow (tk := s.toks) k) (.list (n := 0) (Heap.get?_push_size _ rfl) hf.1 hf.2 (by rw [ho]; exact (VRs.rep hc.2 _).up (Up.grow k))) h
theorem Op2.mulLM {v : V} {x : Int} (h0 : 0 ≤ x) (hx : x ≤ 1000) (h : Q (.obj st.heap.length) { st with heap := st.heap ++ [.list (List.replicate x.toNat v)] }) : Op2 Γ n env st (binaryOp .Mult) (.list [v]) (.int x) Q := by
  intro A s ρ φ a b hA r ha hb
  cases hb
  cases ha with | @list _ l its m e f1 f2 g =>
  obtain ⟨⟨c, hc⟩⟩ : Nonempty {c // its = #[c] ∧ VR Γ.prog Γ.w ρ φ s.heap v c} := by
    obtain ⟨its⟩ := its
    simp only at g
    cases g with | @cons _ c _ _ g1 g2 => cases g2; exact ⟨c, rfl, g1⟩
  refine mul_core e hc.1 h0 hx fun out ho => ?_
  have k : ∀ b o, s.heap.get? b = some o → (s.heap.push (listOf out 0)).get? b = some o := fun b o e => Heap.get?_push_of_some _ e
  have u : Up ρ φ (ρ ++ [s.heap.objs.size]) φ s.heap (s.heap.push (listOf out 0)) := (Ext.add (L := env.locals) (size_none s.heap) k).up r.own
  obtain ⟨y1, y2⟩ := r.add (tk := s.toks) (size_none s.heap) k (.list (n := 0) (Heap.get?_push_size _ rfl) (by rw [ho]; exact (VRs.rep hc.2 _).up u))
  exact Post.mk y1 y2 (.obj (by simp [r.len])) h

-- slices
noncomputable def Prt (Γ : Gam) (n : Nat) (env : Env) (st : St) (e : Option Expr) (Q : Option Int → St → Prop) : Prop := J Γ n env st (evalPart e env) (fun _ _ _ b a => IsPart a b) Q
theorem Prt.none {Q : Option Int → St → Prop} (h : Q none st) : Prt Γ n env st none Q := fun A s ρ φ hA r => wpAny_pure (Post.here (b := Option.none) r .none h)
theorem Prt.int {e} {Q : Option Int → St → Prop} (h : Ev Γ n env st e fun v st1 => ∃ i, v = .int i ∧ Q (some i) st1) : Prt Γ n env st (some e) Q := fun A s ρ φ hA r =>
  J.use h hA r fun a s1 ρ1 v st1 x1 r1 v1 q1 => by
    obtain ⟨i, rfl, q⟩ := q1
    cases v1 with | int _ t => exact Post.mk (b := some i) x1 r1 (.int i t) q
theorem Ev.slc {o lo hi step p pos} (hsub : ∀ a b, ∃ ops, subscripted (.Slice lo hi step p) false a b = operate ops (getItem a b))
    (h : Ev Γ n env st o fun ov st1 => Prt Γ n env st1 lo fun l st2 => Prt Γ n env st2 hi fun u st3 => Prt Γ n env st3 step fun t st4 => ∃ vs ws, st4.lst ov vs ∧ vs.length ≤ 1000 ∧ t ≠ some 0 ∧ (∀ {p w ρ φ h} (items : Array Value), VRs p w ρ φ h vs items.toList → VRs p w ρ φ h ws (slicePick items l u t).toList) ∧ Q (.list ws) st4) :
    Ev Γ n env st (.Subscript o (.Slice lo hi step p) pos) Q := fun A s ρ φ hA r => by
  refine Subscript_ (J.use h hA r fun a s1 ρ1 ov st1 x1 r1 v1 q1 => wpAny_Slice (J.use q1 hA r1 fun lv s2 ρ2 l st2 x2 r2 v2 q2 => J.use q2 hA r2 fun uv s3 ρ3 u st3 x3 r3 v3 q3 => J.use q3 hA r3 fun tv s4 ρ4 t st4 x4 r4 v4 q4 => ?_))
  obtain ⟨vs, ws, hl, hs, ht, hpk, q⟩ := q4
  have v1' := ((v1.up (x2.up r2.own)).up (x3.up r3.own)).up (x4.up r4.own)
  obtain ⟨b, its, m, rfl, e, g⟩ := r4.lst hl v1'
  have hlen := g.length
  have k1 : ∀ b o, s4.heap.get? b = some o → (s4.heap.push { cls := .type "slice", data := .fields #[lv, uv, tv] }).get? b = some o := fun b o e => Heap.get?_push_of_some _ e
  have r5 := r4.grow (tk := s4.toks) k1
  have e' := isList_of (k1 _ _ e)
  obtain ⟨ops, hops⟩ := hsub (.ref b) (.ref s4.heap.objs.size)
  refine tail_any (ops := ops) e'.typeIs slot_list_getitem.lookup (wpAny_getItem_list_slice e' (Heap.IsSliceOf.new ..) v2 v3 v4 ht ?_ (by rw [sizeLine_eq]; simp at hlen; omega)) hops
  have k2 : ∀ b o, s4.heap.get? b = some o → ((s4.heap.push { cls := .type "slice", data := .fields #[lv, uv, tv] }).push (listOf (slicePick its l u t) 0)).get? b = some o := fun b o e => Heap.get?_push_of_some _ (k1 b o e)
  have hf5 := r5.fresh (size_none _)
  exact Post.mk (((x1.trans x2).trans (x3.trans x4)).trans (Ext.grow k2)) (r4.grow (tk := s4.toks) k2) (.list (n := 0) (Heap.get?_push_size _ rfl) hf5.1 hf5.2 ((hpk its g).up (Up.grow k2))) q
theorem VRs.reverse {p w ρ φ h} : ∀ {vs as}, VRs p w ρ φ h vs as → VRs p w ρ φ h vs.reverse as.reverse
  | _, _, .nil => .nil
  | _, _, .cons x r => by rw [List.reverse_cons, List.reverse_cons]; exact (VRs.reverse r).append (.cons x .nil)
theorem Ev.upto {o e p pos} (h : Ev Γ n env st o fun ov st1 => Ev Γ n env st1 e fun iv st2 => ∃ i : Nat, iv = .int i ∧ ∃ vs, st2.lst ov vs ∧ vs.length ≤ 1000 ∧ Q (.list (vs.take i)) st2) : Ev Γ n env st (.Subscript o (.Slice Option.none (some e) Option.none p) pos) Q :=
  Ev.slc (fun a b => ⟨[b, a], rfl⟩) (h.mono fun ov st1 h1 => Prt.none (Prt.int (h1.mono fun iv st2 ⟨i, e, vs, hl, hs, q⟩ => ⟨i, e, Prt.none ⟨vs, vs.take i, hl, hs, by simp, fun items g => by rw [slicePick_upto']; exact g.take i, q⟩⟩)))
theorem Ev.from {o e p pos} (h : Ev Γ n env st o fun ov st1 => Ev Γ n env st1 e fun iv st2 => ∃ i : Nat, iv = .int i ∧ ∃ vs, st2.lst ov vs ∧ vs.length ≤ 1000 ∧ Q (.list (vs.drop i)) st2) : Ev Γ n env st (.Subscript o (.Slice (some e) Option.none Option.none p) pos) Q :=
  Ev.slc (fun a b => ⟨[b, a], rfl⟩) (h.mono fun ov st1 h1 => Prt.int (h1.mono fun iv st2 ⟨i, e, vs, hl, hs, q⟩ => ⟨i, e, Prt.none (Prt.none ⟨vs, vs.drop i, hl, hs, by simp, fun items g => by rw [slicePick_from']; exact g.drop i, q⟩)⟩))
theorem Ev.rev {o e p pos} (hsub : ∀ a b, ∃ ops, subscripted (.Slice Option.none Option.none (some e) p) false a b = operate ops (getItem a b)) (h : Ev Γ n env st o fun ov st1 => Ev Γ n env st1 e fun iv st2 => iv = .int (-1) ∧ ∃ vs, st2.lst ov vs ∧ vs.length ≤ 1000 ∧ Q (.list vs.reverse) st2) : Ev Γ n env st (.Subscript o (.Slice Option.none Option.none (some e) p) pos) Q :=
  Ev.slc hsub (h.mono fun ov st1 h1 => Prt.none (Prt.none (Prt.int (h1.mono fun iv st2 ⟨e, vs, hl, hs, q⟩ => ⟨-1, e, vs, vs.reverse, hl, hs, by simp, fun items g => by rw [krv_pick]; exact g.reverse, q⟩))))

-- membership, likeness
noncomputable def isInt (i : Int) : Value → Bool
  | .int a _ => a == i
  | _ => false
theorem isInt_any (i : Int) : ∀ {as : List Value} {ns : List Int}, IntsAre as ns → as.any (isInt i) = decide (i ∈ ns)
  | _, _, .nil => by simp
  | _, _, .cons a u r => by
    rw [List.any_cons, isInt_any i r, Bool.eq_iff_iff]
    simp only [isInt, Bool.or_eq_true, beq_iff_eq, decide_eq_true_eq, List.mem_cons]
    exact or_congr_left eq_comm
theorem isInt_at (i : Int) : ∀ {as : List Value} {ns : List Int}, IntsAre as ns → ∀ (j : Nat) (v : Value), as[j]? = some v → isInt i v = (ns[j]? == some i)
  | _, _, .nil, j, v, e => by simp at e
  | _, _, .cons a u r, 0, v, e => by simp at e; subst e; simp [isInt]
  | _, _, .cons a u r, j + 1, v, e => by simp at e; rw [isInt_at i r j v e]; simp
theorem isInt_eq {A : Around} {s : Shared} {i : Int} {t : Tok} {as : List Value} {ns : List Int} (hi : IntsAre as ns) {y : Value} (hy : y ∈ as) : SeqAt.EqAt A s y (.int i t) (isInt i y) := by
  obtain ⟨a, u, rfl⟩ := hi.allInts y (by simpa using hy)
  exact SeqAt.EqAt.int_int a u i t
theorem Op2.inI {v : V} {ns : List Int} {i : Int} (hl : st.lst v (ns.map .int)) (h : Q (.bool (decide (i ∈ ns))) st) : Op2 Γ n env st (compareOp .In) (.int i) v Q := by
  intro A s ρ φ a b hA r ha hb
  obtain ⟨b', its, m, rfl, e, g⟩ := r.lst hl hb
  cases ha with | int _ t =>
  refine SeqAt.in_listAt (isInt i) (isList_of e) (fun y hy => isInt_eq g.ints (by simpa using hy)) ?_
  rw [← Array.any_toList, isInt_any i g.ints]
  exact Post.here r (.bool _) h
/-- xs.index(i) -/
theorem Cal.indexI {v : V} {ns : List Int} {i : Int} {j : Nat} (hl : st.lst v (ns.map .int)) (hs : ns.length ≤ 1000) (hj : ns[j]? = some i) (hno : ∀ m, m < j → ns[m]? ≠ some i) (h : Q (.int j) st) :
    Cal Γ n env st (.val (.builtin "list.index")) [v, .int i] Q := by
  intro A s ρ φ f as hA r hf hv
  obtain rfl := hf.val_inv
  cases hv with | cons h1 h2 => cases h2 with | cons h2 h3 =>
    cases h3
    obtain ⟨b', its, m, rfl, e, g⟩ := r.lst hl h1
    cases h2 with | int _ t =>
    have hlen : its.size = ns.length := by have := g.length; simpa using this.symm
    have hjn : j < ns.length := (List.getElem?_eq_some_iff.mp hj).1
    refine call_meets F.slot_list_index ⟨_, e, rfl⟩ F.entry_list_index (F.args_list_index_2 _ _) (SeqAt.list_indexAt b' its m none #[] (.int i t) (isInt i) j (by omega) (by omega) ?_ ?_)
      ⟨e, fun y hy => isInt_eq g.ints (by simpa using hy), Post.tok r (.int _ _) h⟩
    · rw [isInt_at i g.ints j its[j] (by simp [hlen, hjn]), hj]; simp
    · intro k hk hkj
      rw [isInt_at i g.ints k its[k] (by simp [hk])]
      simpa using hno k hkj
theorem Op2.neL {v w : V} {ns ms : List Int} (h1 : st.lst v (ns.map .int)) (h2 : st.lst w (ms.map .int)) (h : Q (.bool (!decide (ns = ms))) st) : Op2 Γ n env st (compareOp .NotEq) v w Q := by
  intro A s ρ φ a b hA r ha hb
  obtain ⟨a', its, m, rfl, e1, g1⟩ := r.lst h1 ha
  obtain ⟨b', its2, m2, rfl, e2, g2⟩ := r.lst h2 hb
  exact ne_intsK (vs := its.toList) (us := its2.toList) (by simpa using isList_of e1) g1.ints (by simpa using isList_of e2) g2.ints hA.room (Post.here r (.bool _) h)

end

end

section
open PySem PySem.Calls PyProof.Rows PySem.W
section
variable {Γ : Gam} {n : Nat} {env : Env} {st : St} {Q : V → St → Prop}

theorem eqAt_intLists {A : Around} {s : Shared} {a b : Addr} {its its2 : Array Value} {ns ms : List Int} (hl : s.heap.IsList a its) (hi : IntsAre its.toList ns) (hb : s.heap.IsList b its2) (hj : IntsAre its2.toList ms) (hu : A.units < cLine) :
    SeqAt.EqAt A s (.ref a) (.ref b) (ns == ms) := by
  by_cases hab : a = b
  · subst hab
    have h1 : its = its2 := by
      obtain ⟨o, e, _, n1, d1⟩ := hl
      obtain ⟨o', e', _, n2, d2⟩ := hb
      rw [e] at e'; cases e'
      rw [d1] at d2; injection d2
    subst h1
    have h2 : ns = ms := by rw [← hi.numsOf, hj.numsOf]
    subst h2
    rw [beq_self_eq_true]
    exact SeqAt.EqAt.same _
  · refine SeqAt.EqAt.of_refs hab ?_
    have l1 : its.size = ns.length := by simpa using hi.length
    have l2 : its2.size = ms.length := by simpa using hj.length
    by_cases hlen : its.size = its2.size
    · have key := SeqAt.RcAt.lists (A := A) (e := fun j => ns[j]? == ms[j]?) hl hb hlen hu (fun j h1 h2 => by
        obtain ⟨x, t, e⟩ := hi.allInts its[j] (by simp)
        obtain ⟨y, u, e'⟩ := hj.allInts its2[j] (by simp)
        have e3 := isInt_at x hi j its[j] (by simp [h1])
        have e4 := isInt_at y hj j its2[j] (by simp [h2])
        rw [e] at e3 ⊢
        rw [e'] at e4 ⊢
        have e5 : ns[j]? = some x := by simpa [isInt] using e3.symm
        have e6 : ms[j]? = some y := by simpa [isInt] using e4.symm
        rw [e5, e6]
        have := SeqAt.EqAt.int_int (A := A.in1) (s := s) x t y u
        simpa using this)
      have heq : (List.range its.size).all (fun j => ns[j]? == ms[j]?) = (ns == ms) := by
        rw [Bool.eq_iff_iff, List.all_eq_true, beq_iff_eq]
        constructor
        · intro h
          apply List.ext_getElem?
          intro j
          by_cases hj' : j < its.size
          · simpa using h j (List.mem_range.mpr hj')
          · rw [List.getElem?_eq_none (by omega), List.getElem?_eq_none (by omega)]
        · rintro rfl j _; simp
      rw [heq] at key
      exact key
    · have : (ns == ms) = false := beq_eq_false_iff_ne.mpr fun q => hlen (by rw [l1, l2, q])
      rw [this]
      exact SeqAt.RcAt.lists_lengths hl hb (by simpa using hlen) hu

noncomputable def LL (xss : List (List Int)) : List V := xss.map fun xs => V.list (xs.map V.int)
noncomputable def isL (h : Heap) (xs : List Int) : Value → Bool
  | .ref a => match h.get? a with
    | some o => match o.data with
      | .seq its _ => numsOf its.toList == xs
      | _ => false
    | none => false
  | _ => false
theorem isL_at {p w ρ φ h} (xs : List Int) : ∀ {xss : List (List Int)} {as : List Value}, VRs p w ρ φ h (LL xss) as → ∀ (j : Nat) (v : Value), as[j]? = some v → isL h xs v = (xss[j]? == some xs) ∧ ∃ b its ns, v = .ref b ∧ h.IsList b its ∧ IntsAre its.toList ns ∧ isL h xs v = (ns == xs)
  | [], _, .nil, j, v, e => by simp at e
  | ys :: xss, _, .cons x r, 0, v, e => by
    simp at e; subst e
    cases x with
    | @list _ b its m e _ _ g =>
      have hi := VRs.ints g
      have h1 : isL h xs (.ref b) = (ys == xs) := by simp only [isL, e]; rw [hi.numsOf]
      refine ⟨?_, b, its, ys, rfl, isList_of e, hi, h1⟩
      rw [h1, Bool.eq_iff_iff]; simp
  | ys :: xss, _, .cons x r, j + 1, v, e => by
    simp at e
    have := isL_at xs r j v e
    simpa using this
/-- xss.index(xs) -/
theorem Cal.indexL {v w : V} {xss : List (List Int)} {xs : List Int} {j : Nat} (hl : st.lst v (LL xss)) (hw : st.lst w (xs.map .int)) (hs : xss.length ≤ 1000) (hj : xss[j]? = some xs) (hno : ∀ m, m < j → xss[m]? ≠ some xs) (h : Q (.int j) st) :
    Cal Γ n env st (.val (.builtin "list.index")) [v, w] Q := by
  intro A s ρ φ f as hA r hf hv
  obtain rfl := hf.val_inv
  cases hv with | cons h1 h2 => cases h2 with | cons h2 h3 =>
    cases h3
    obtain ⟨b', its, m, rfl, e, g⟩ := r.lst hl h1
    obtain ⟨c, its2, m2, rfl, e2, g2⟩ := r.lst hw h2
    have hlen : its.size = xss.length := by have := g.length; simpa [LL] using this.symm
    have hjn : j < xss.length := (List.getElem?_eq_some_iff.mp hj).1
    refine call_meets F.slot_list_index ⟨_, e, rfl⟩ F.entry_list_index (F.args_list_index_2 _ _) (SeqAt.list_indexAt b' its m none #[] (.ref c) (isL s.heap xs) j (by omega) (by omega) ?_ ?_)
      ⟨e, fun y hy => ?_, Post.tok r (.int _ _) h⟩
    · rw [(isL_at xs g j its[j] (by simp [hlen, hjn])).1, hj]; simp
    · intro k hk hkj
      rw [(isL_at xs g k its[k] (by simp [hk])).1]
      simpa using hno k hkj
    · obtain ⟨k, hk, rfl⟩ := Array.mem_iff_getElem.mp hy
      obtain ⟨_, b, its3, ns, e3, hl3, hi3, h3⟩ := isL_at xs g k its[k] (by simp [hk])
      rw [h3, e3]
      refine eqAt_intLists hl3 hi3 (isList_of e2) (VRs.ints g2) ?_
      have h5 := hA.units
      have h6 : cLine = 9900 := by decide
      rw [Around.in1_units, h6]; omega

end

end

section
open PySem PySem.Calls PyProof.Rows PySem.W
section
variable {Γ : Gam} {n : Nat} {env : Env} {st : St} {Q : V → St → Prop}

theorem selfRows {es : List (Int × Int)} : ∀ {l : List (Int × Int)}, (∀ p ∈ l, kdfHas es p.1 = true ∧ kdfLook es p.1 0 = p.2) → KeqRows (kdfD es) (kdfD l) true
  | [], _ => .nil
  | p :: l, h => by
    have h1 := h p List.mem_cons_self
    have h2 := KeqRows.hit (v := PyData.int p.2) (kdfD_item h1.1) (selfRows fun q hq => h q (List.mem_cons_of_mem _ hq))
    rw [h1.2, show (PyData.eqv (.int p.2) (.int p.2) && true) = true from by simp [PyData.eqv]] at h2
    exact h2
/-- two dicts alike -/
theorem Op2.neD {v w es} (h1 : st.dct v es) (h2 : st.dct w es) (hs : ∀ p ∈ es, kdfHas es p.1 = true ∧ kdfLook es p.1 0 = p.2) (h : Q (.bool false) st) : Op2 Γ n env st (compareOp .NotEq) v w Q := by
  intro A s ρ φ a b hA r ha hb
  obtain ⟨a', rfl, x⟩ := r.dct h1 ha
  obtain ⟨b', rfl, y⟩ := r.dct h2 hb
  exact kne_tabs (knd := PySem.intKind _ _) (enc := PyData.int) PyProof.V.same_int x.tab y.tab rfl (by have := hA.room; omega) (selfRows hs) (Post.here r (.bool _) h)

theorem reads_strs {p w ρ φ h} : ∀ {xs : List Str} {as : List Value}, VRs p w ρ φ h (xs.map V.str) as → ∃ bs, ReadsAll h as (xs.map PyData.str) bs
  | [], _, .nil => ⟨_, .nil⟩
  | x :: xs, _, .cons y r => by
    cases y with | str _ t => obtain ⟨bs, hb⟩ := reads_strs r; exact ⟨_, .cons (.str x t) hb⟩
theorem Op2.neS {v w : V} {xs ys : List Str} {c : Bool} (h1 : st.lst v (xs.map .str)) (h2 : st.lst w (ys.map .str)) (s1 : SeqAt.shaped (.list (xs.map PyData.str)) = true) (s2 : SeqAt.shaped (.list (ys.map PyData.str)) = true)
    (hm : SeqAt.noMix (.list (xs.map PyData.str)) (.list (ys.map PyData.str)) = true) (hc : (!PySem.Spec.same (.list (xs.map PyData.str)) (.list (ys.map PyData.str))) = c) (h : Q (.bool c) st) : Op2 Γ n env st (compareOp .NotEq) v w Q := by
  intro A s ρ φ a b hA r ha hb
  obtain ⟨a', its, m, rfl, e1, g1⟩ := r.lst h1 ha
  obtain ⟨b', its2, m2, rfl, e2, g2⟩ := r.lst h2 hb
  obtain ⟨_, k1⟩ := reads_strs g1
  obtain ⟨_, k2⟩ := reads_strs g2
  exact ne_dataH_same (Reads.list e1 rfl rfl k1) (Reads.list e2 rfl rfl k2) s1 s2 hA.room hm (by rw [hc]; exact Post.here r (.bool _) h)

-- defs whose names stand in cells
noncomputable def cellIds : List Str → Nat → List (Str × Nat)
  | [], _ => []
  | x :: xs, k => (x, k) :: cellIds xs (k + 1)
noncomputable def cellNames (names : List (Str × NameKind)) : List Str := names.filterMap fun p => if p.2 == .cell then some p.1 else none
theorem cellsFrom_eq : ∀ (names : List (Str × NameKind)) (n : Nat) (acc : List (Str × Addr)), cellsFrom n names acc = (cellIds (cellNames names) n).reverse ++ acc
  | [], n, acc => rfl
  | (x, k) :: r, n, acc => by
    unfold cellsFrom cellNames
    rw [List.filterMap_cons]
    by_cases h : (k == NameKind.cell) = true
    · simp only [h, if_true]
      rw [cellsFrom_eq r (n + 1)]
      show _ = ((x, n) :: cellIds (cellNames r) (n + 1)).reverse ++ acc
      simp
    · simp only [h]
      exact cellsFrom_eq r n acc
theorem cellIds_lookup {x : Str} {k : Nat} : ∀ {xs : List Str} {n : Nat}, (cellIds xs n).lookup x = some k → ∃ i, xs[i]? = some x ∧ k = n + i ∧ ∀ m, (cellIds xs m).lookup x = some (m + i)
  | [], n, h => by simp [cellIds] at h
  | y :: ys, n, h => by
    unfold cellIds at h
    rw [lookup_put] at h
    by_cases q : x = y
    · subst q
      rw [if_pos rfl] at h; cases h
      exact ⟨0, by simp, by simp, fun m => by unfold cellIds; rw [lookup_put, if_pos rfl]; simp⟩
    · rw [if_neg q] at h
      obtain ⟨i, h1, h2, h3⟩ := cellIds_lookup h
      exact ⟨i + 1, by simpa using h1, by omega, fun m => by unfold cellIds; rw [lookup_put, if_neg q, h3 (m + 1)]; congr 1; omega⟩
theorem cellIds_at {i : Nat} {x : Str} : ∀ {xs : List Str} {n : Nat}, xs[i]? = some x → (x, n + i) ∈ cellIds xs n := by
  induction i with
  | zero => intro xs n h; cases xs with | nil => simp at h | cons y ys => simp at h; subst h; simp [cellIds]
  | succ i ih => intro xs n h; cases xs with | nil => simp at h | cons y ys => simp at h; have := ih (n := n + 1) h; unfold cellIds; rw [show n + (i + 1) = n + 1 + i by omega]; exact List.mem_cons_of_mem _ this
theorem lookup_rev {α : Type} : ∀ {l : List (Str × α)} {x : Str} {v : α}, (l.map (·.1)).Nodup → (x, v) ∈ l → l.lookup x = some v ∧ l.reverse.lookup x = some v := by
  have one : ∀ {l : List (Str × α)} {x : Str} {v : α}, (l.map (·.1)).Nodup → (x, v) ∈ l → l.lookup x = some v := by
    intro l
    induction l with
    | nil => intro x v _ h; cases h
    | cons p l ih =>
      intro x v hn h
      show ((p.1, p.2) :: l).lookup x = _
      rw [lookup_put]
      rcases List.mem_cons.mp h with q | q
      · subst q; simp
      · have : x ≠ p.1 := fun e => (List.nodup_cons.mp hn).1 (show p.1 ∈ l.map (·.1) by rw [← e]; exact List.mem_map_of_mem (f := (·.1)) q)
        rw [if_neg this]; exact ih (List.nodup_cons.mp hn).2 q
  intro l x v hn h
  refine ⟨one hn h, one ?_ (List.mem_reverse.mpr h)⟩
  rw [List.map_reverse]; exact (List.reverse_perm _).nodup_iff.mpr hn
theorem cellIds_fst : ∀ (xs : List Str) (n : Nat), (cellIds xs n).map (·.1) = xs
  | [], _ => rfl
  | x :: xs, n => by simp [cellIds, cellIds_fst xs]
theorem bindL_local {kindOf : Str → Option NameKind} : ∀ (l : List (Str × Value)) (m : Str → Option Value) (y : Str), (∀ x ∈ l, kindOf x.1 = some .local) → bindL kindOf l m y = (l.reverse.lookup y).or (m y)
  | [], m, y, _ => by simp [bindL]
  | (n, v) :: r, m, y, h => by
    unfold bindL
    rw [if_pos (h _ List.mem_cons_self), bindL_local r _ y fun x hx => h x (List.mem_cons_of_mem _ hx), List.reverse_cons, List.lookup_append, lookup_put]
    by_cases q : y = n
    · subst q; cases r.reverse.lookup y <;> simp
    · cases r.reverse.lookup y <;> simp [q]

/-- a frame with cells is laid -/
theorem Rep.enterC {ρ φ s env' h₁ tk m loc} {cn : List Str} {L : Addr} (r : Rep Γ env ρ φ st s) (hLs : L = s.heap.objs.size) (hL' : env'.locals = L) (hce : env'.cells = (cellIds cn (L + 1)).reverse) (hnd : cn.Nodup) (hn : h₁.Ns L m)
    (hk : ∀ b o, s.heap.get? b = some o → h₁.get? b = some o) (hc : ∀ (i : Nat) (x : Str), cn[i]? = some x → h₁.IsCell (L + 1 + i) none)
    (hf : ∀ x v, loc.lookup x = some v → ∃ v', m x = some v' ∧ VR Γ.prog Γ.w ρ φ s.heap v v') :
    Ext L ρ (ρ ++ List.range' (L + 1) cn.length) s.heap h₁ ∧
    Rep Γ env' (ρ ++ List.range' (L + 1) cn.length) (L :: φ) { loc := loc, cl := cellIds cn st.heap.length, heap := st.heap ++ cn.map (fun _ => O.cell none), pin := st.pin } { s with heap := h₁, toks := tk } := by
  have old : ∀ (b : Addr) o, s.heap.get? b = some o → (b : Nat) < L := fun b o e => hLs ▸ Heap.lt_size e
  have hL : s.heap.get? L = none := hLs ▸ size_none s.heap
  have new : ∀ b ∈ List.range' (L + 1) cn.length, s.heap.get? b = none := fun b hb => by
    cases e : s.heap.get? b with
    | none => rfl
    | some o => have h1 := old b o e; have h2 := (List.mem_range'_1.mp hb).1; exact absurd (Nat.lt_of_lt_of_le (Nat.lt_succ_of_lt h1) h2) (Nat.lt_irrefl _)
  have u : Up ρ φ (ρ ++ List.range' (L + 1) cn.length) (L :: φ) s.heap h₁ := ⟨List.prefix_append .., fun b o e h1 h2 => ⟨hk b o e, fun q => (List.mem_append.mp q).elim h1 fun q => (by rw [new b q] at e; cases e), fun q => (List.mem_cons.mp q).elim (fun q => (by rw [q, hL] at e; cases e)) h2⟩⟩
  refine ⟨⟨List.prefix_append .., fun a ha => (List.mem_append.mp ha).imp id (new a), fun b o e _ _ => hk b o e, fun b o e => ⟨o, hk b o e⟩⟩, (let ⟨h0, t, e⟩ := r.same; ⟨h₁, tk, by rw [e]⟩), fun b o e => hk b o (r.base b o e), by simp [r.len], ?_, fun a ha => ?_, fun a ha => ?_, fun a ha q => ?_, fun k o e => ?_, ?_, fun a ha => ?_, ⟨m, hL' ▸ hn, fun x v e => ?_⟩, fun x k e => ?_, fun p hp => pre_get (List.prefix_append ..) (r.pins p hp)⟩
  · refine List.nodup_append.mpr ⟨r.nodup, List.nodup_range', fun a ha b hb q => ?_⟩
    subst q
    obtain ⟨o, e⟩ := r.liveR ha
    rw [new a hb] at e; cases e
  · rcases List.mem_append.mp ha with q | q
    · exact r.freshR a q
    · cases e : Γ.B a with
      | none => rfl
      | some o => have := r.base a o e; rw [new a q] at this; cases this
  · rcases List.mem_cons.mp ha with q | q
    · cases e : Γ.B a with
      | none => rfl
      | some o => have := r.base a o e; rw [q, hL] at this; cases this
    · exact r.freshF a q
  · rcases List.mem_append.mp ha with q1 | q1 <;> rcases List.mem_cons.mp q with q2 | q2
    · obtain ⟨o, e⟩ := r.liveR q1; rw [q2, hL] at e; cases e
    · exact r.disj a q1 q2
    · have h2 := (List.mem_range'_1.mp q1).1
      rw [q2] at h2; exact absurd h2 (Nat.not_succ_le_self _)
    · obtain ⟨o, e⟩ := r.live a q2; rw [new a q1] at e; cases e
  · rw [List.getElem?_append] at e
    by_cases q : k < st.heap.length
    · rw [if_pos q] at e
      obtain ⟨a, e1, ho⟩ := r.heap k o e
      exact ⟨a, pre_get (List.prefix_append ..) e1, ho.up u fun o e => hk a o e⟩
    · rw [if_neg q, List.getElem?_map] at e
      obtain ⟨x, hx, rfl⟩ := Option.map_eq_some_iff.mp e
      have hlt : k - st.heap.length < cn.length := (List.getElem?_eq_some_iff.mp hx).1
      obtain ⟨oc, g1, g2⟩ := hc _ x hx
      refine ⟨L + 1 + (k - st.heap.length), ?_, .cellN g1 g2⟩
      rw [List.getElem?_append_right (by rw [r.len]; omega), r.len, List.getElem?_range' hlt]
      congr 1; rw [Nat.one_mul]
  · rw [hL']; exact List.mem_cons_self
  · rcases List.mem_cons.mp ha with q | q
    · obtain ⟨o, _, _, e, _⟩ := hn; rw [q]; exact ⟨o, e⟩
    · obtain ⟨o, e⟩ := r.live a q; exact ⟨o, hk a o e⟩
  · obtain ⟨v', e1, e2⟩ := hf x v e; exact ⟨v', e1, e2.up u⟩
  · obtain ⟨i, h1, h2, h3⟩ := cellIds_lookup e
    have hlt : i < cn.length := (List.getElem?_eq_some_iff.mp h1).1
    refine ⟨L + 1 + i, ?_, ?_⟩
    · rw [hce]; exact (lookup_rev (by rw [cellIds_fst]; exact hnd) (cellIds_at h1)).2
    · rw [h2, List.getElem?_append_right (by rw [r.len]; omega), r.len, show st.heap.length + i - st.heap.length = i by omega, List.getElem?_range' hlt]
      congr 1; rw [Nat.one_mul]

theorem Cal.fnC {a : Addr} {fd : FuncData} {body : List Stmt} {vs : List V} {bv : List (Str × V)} (cn : List Str) (D : DefIs Γ a fd) (hbody : fd.body = .stmts body)
    (hbind : ∀ as ρ φ h, VRs Γ.prog Γ.w ρ φ h vs as → ∃ bs, bindArgs fd ⟨as, []⟩ = pure bs ∧ BRs Γ.prog Γ.w ρ φ h bv bs)
    (hcn : cellNames fd.scope.names = cn) (hnd : cn.Nodup) (hloc : ((bv.map (·.1)).all fun x => fd.scope.names.lookup x == some .local) = true)
    (h : ∀ L, Exs Γ n (callEnvC fd L a) { loc := bv.reverse, cl := cellIds cn st.heap.length, heap := st.heap ++ cn.map (fun _ => O.cell none), pin := st.pin } body (fun f st' => RetQ (fun w st'' => Q w { loc := st.loc, cl := st.cl, heap := st''.heap, pin := st.pin }) f st'))
    (hclo : fd.closure = [] := by rfl) (hco : fd.scope.isCoroutine = false := by rfl) (hgen : fd.scope.isGenerator = false := by rfl) (hk : fd.scope.kind = .function := by rfl) :
    Cal Γ (n + 1) env st (.val (.ref a)) vs Q := fun A s ρ φ fv as hA r hf hv => by
  obtain rfl := hf.val_inv
  obtain ⟨o, hB, hd⟩ := D.obj
  obtain ⟨bs, hb, hbr⟩ := hbind as ρ φ s.heap hv
  have hloc' : ∀ x ∈ bs, fd.scope.names.lookup x.1 = some .local := fun x hx => by simpa using List.all_eq_true.mp hloc x.1 (by rw [hbr.fst]; exact List.mem_map_of_mem hx)
  refine wpAny_call (codeAny_call_cells (fd := fd) (body := body) (binds := bs) (by have := hA.depth; unfold recursionLimit; omega) (r.base _ _ hB) hd (D.nolim _ r.base) (D.code _ r.base) hbody hb hclo (fun x hx => .inl (hloc' x hx)) (fun s₁ X => ?_) hco hgen hk)
  obtain ⟨h₁, tk, rfl, _⟩ := X.done
  have hcells : (callEnvC fd s.heap.objs.size a).cells = (cellIds cn (s.heap.objs.size + 1)).reverse := by
    show cellsFrom (s.heap.objs.size + 1) fd.scope.names [] = _
    rw [cellsFrom_eq, hcn, List.append_nil]
  have hbC : ∀ x, bindC (callEnvC fd s.heap.objs.size a).kindOf bs (fun _ => none) x = none := fun x => by
    have : ∀ (l : List (Str × Value)) (m : Str → Option Value), (∀ x ∈ l, (callEnvC fd s.heap.objs.size a).kindOf x.1 = some .local) → bindC (callEnvC fd s.heap.objs.size a).kindOf l m = m := by
      intro l
      induction l with
      | nil => intro m _; rfl
      | cons p l ih => intro m hl; obtain ⟨y, v⟩ := p; unfold bindC; rw [if_pos (hl _ List.mem_cons_self)]; exact ih m fun x hx => hl x (List.mem_cons_of_mem _ hx)
    rw [this bs _ hloc']
  obtain ⟨x1, r1⟩ := r.enterC (env' := callEnvC fd s.heap.objs.size a) (L := s.heap.objs.size) (tk := tk) (loc := bv.reverse) (cn := cn) rfl rfl hcells hnd X.toInCall.ns X.toInCall.keep (fun i x hi => by
      have h1 := X.cell x (s.heap.objs.size + 1 + i) (by rw [hcells]; exact (lookup_rev (by rw [cellIds_fst]; exact hnd) (cellIds_at hi)).2)
      rw [hbC] at h1; exact h1)
    (fun x v e => by
      obtain ⟨v', e1, e2⟩ := hbr.reverse.lookup e
      exact ⟨v', by rw [bindL_local bs _ x hloc', e1]; rfl, e2⟩)
  have hL := size_none s.heap
  refine wpAny_mono (h s.heap.objs.size _ _ _ _ hA.deeper r1) (fun f s' ⟨ρ', fl, st', x, r', vf, q⟩ => ?_) fun _ _ z => z.elim
  have x0 : Ext (callEnvC fd s.heap.objs.size a).locals ρ ρ' s.heap s'.heap := Ext.trans x1 x
  obtain ⟨y1, y2, y3⟩ := r.leave (env' := callEnvC fd s.heap.objs.size a) hL r' x0
  cases fl with
  | next => cases vf; exact Post.mk y1 y3 (b := V.none) .none q
  | brk => cases vf; exact Post.mk y1 y3 (b := V.none) .none q
  | cont => cases vf; exact Post.mk y1 y3 (b := V.none) .none q
  | ret w => obtain ⟨b, rfl, hw⟩ := vf; exact Post.mk y1 y3 (hw.up y2) q

end

end

section
open PySem PySem.Calls PyProof.Rows PySem.W
section
variable {Γ : Gam} {n : Nat} {env : Env} {st : St} {Q : V → St → Prop}
theorem Ev.mth {o name apos e es pos T id} (pa : PlainAttrs T) (slot : Slot T name id) (hty : typeOf (.builtin id) = pure (.type "method_descriptor"))
    (hbase : attributeBase o name env (eval o env) = eval o env)
    (hfew : ((backTo pos (starEach (e :: es) env)).all (fun x => !x.1) && (backToKw pos (keywordEach [] env)).all (fun x => x.1.isSome)
      && decide ((e :: es).length + ([] : List Keyword).length + (if ([] : List Keyword).isEmpty then 0 else 1) < 30)) = true)
    (hline : (apos.endLine == pos.line) = true)
    (h : Ev Γ n env st o fun ov st1 => TyIs Γ st1 ov T ∧ Arg Γ n env st1 pos (e :: es) fun vs st2 => Cal Γ n env st2 (.val (.builtin id)) (ov :: vs) Q)
    (he2 : starEach (e :: es) env = (false, eval e env) :: starEach es env := by rfl)
    (hplain : (backTo pos (starEach (e :: es) env)).any (·.1) = false := by rfl) :
    Ev Γ n env st (.Call (.Attribute o name apos) (e :: es) [] pos) Q :=
  Ev.meth pa slot hty hbase hfew hline h hplain fun {A E s P} hw => by
    rw [he2] at hw ⊢
    exact evalArgs_plain hw
end

end

section
open PySem PySem.Calls PyProof.Rows PySem.W

structure Grd (Γ : Gam) (K : Frag) : Prop where
  ex : ∃ h, Γ.In h
  K : ∀ a o, K.lookup a = some o → Γ.B a = some o
  names : ∃ mg mb, (∀ h, Γ.In h → h.Ns mainGlobals mg) ∧ (∀ h, Γ.In h → h.Ns builtinsNs mb) ∧ ∀ x : Str, x ≠ "__name__" → mb x = bootBuiltins x
  nolim : ∀ h, Γ.In h → h.NoLimit
  sys : ∃ a o, sysModules < a ∧ Γ.B a = some o
  bm : ∃ mg, (∀ h, Γ.In h → h.Ns mainGlobals mg) ∧ ∀ P h, Γ.B P = none → Γ.In h → h.BuiltinsAt mg P ∧ mainGlobals ≠ P

section
variable {Γ : Gam} {K : Frag}
theorem Grd.In (G : Grd Γ K) {h : Heap} (hi : Γ.In h) : Frag.In K h := fun a o e => hi _ _ (G.K a o e)
theorem Grd.gv (G : Grd Γ K) {x : Str} {v : Value} (e : nsIn K mainGlobals x = some (some v)) : GV Γ x v := by
  obtain ⟨mg, mb, h1, h2, h3⟩ := G.names
  obtain ⟨h, hi⟩ := G.ex
  exact ⟨mg, h1, mg_of (G.In hi) (h1 h hi) e⟩
theorem Grd.gb (G : Grd Γ K) {x : Str} {v : Value} (e : nsIn K mainGlobals x = some none) (hv : bootBuiltins x = some v) (hn : x ≠ "__name__") : GB Γ x v := by
  obtain ⟨mg, mb, h1, h2, h3⟩ := G.names
  obtain ⟨h, hi⟩ := G.ex
  exact ⟨mg, mb, h1, mg_none_of (G.In hi) (h1 h hi) e, h2, (h3 x hn).trans hv⟩
theorem Grd.def (G : Grd Γ K) {a : Addr} {fd : FuncData} {oc od osl} (ho : K.lookup a = some ⟨oc, od, .func fd, osl⟩) (hcd : codeIn K fd.code fd.qualname = true) : DefIs Γ a fd :=
  ⟨⟨_, G.K _ _ ho, rfl⟩, fun h hi => codeRec_of (G.In hi) hcd, G.nolim⟩
end
noncomputable abbrev K0 (Γ : Gam) : Frag := hd.heap_39 Γ.w.params

end

section
open PySem PySem.Calls PyProof.Rows PySem.W
theorem getB {α : Type} (B l : List α) (i : Nat) : (B ++ l)[B.length + i]? = l[i]? := by rw [List.getElem?_append_right (Nat.le_add_right _ _), Nat.add_sub_cancel_left]
theorem getB0 {α : Type} (B l : List α) : (B ++ l)[B.length]? = l[0]? := getB B l 0
theorem setB {α : Type} (B l : List α) (i : Nat) (x : α) : (B ++ l).set (B.length + i) x = B ++ l.set i x := by rw [List.set_append_right _ _ (Nat.le_add_right _ _), Nat.add_sub_cancel_left]
theorem setB0 {α : Type} (B l : List α) (x : α) : (B ++ l).set B.length x = B ++ l.set 0 x := setB B l 0 x
/-- a state but for its names -/
noncomputable def At (cl : List (Str × Nat)) (hp : List O) (pin : List (Nat × Addr)) (st : St) : Prop := st.cl = cl ∧ st.heap = hp ∧ st.pin = pin
section
variable {Γ : Gam} {n : Nat} {env : Env} {st : St}
theorem Sto.cel2 {x v k c hp} {Q : St → Prop} (hc : st.cl.lookup x = some k) (ho : st.heap[k]? = some (.cell c)) (hk : env.scope.kind = .function) (hl : env.kindOf x = some .cell) (hst : st.heap.set k (.cell (some v)) = hp) (h : Q { st with heap := hp }) : Sto Γ n env st x v Q :=
  Sto.cel hc ho hk hl (by subst hst; exact h)
theorem Ev.listM2 {es pos} {Q : V → St → Prop} (h : Arg Γ n env st pos es fun vs st1 => vs.length ≤ 1000 ∧ ∃ k hp, st1.heap.length = k ∧ st1.heap ++ [.list vs] = hp ∧ Q (.obj k) { st1 with heap := hp }) : Ev Γ n env st (.List es pos) Q :=
  Ev.listM (J.mono h fun vs st1 ⟨h1, k, hp, e1, e2, q⟩ => ⟨h1, by subst e1 e2; exact q⟩)
theorem Ev.dictM2 {pos k hp} {Q : V → St → Prop} (hsys : ∃ a o, sysModules < a ∧ Γ.B a = some o) (hk : st.heap.length = k) (hst : st.heap ++ [.dict []] = hp) (h : Q (.obj k) { st with heap := hp }) : Ev Γ n env st (.Dict [] [] pos) Q := Ev.dictM hsys (by subst hk hst; exact h)
theorem Op2.mulLM2 {v : V} {x : Int} {k hp} {Q : V → St → Prop} (h0 : 0 ≤ x) (hx : x ≤ 1000) (hk : st.heap.length = k) (hst : st.heap ++ [.list (List.replicate x.toNat v)] = hp) (h : Q (.obj k) { st with heap := hp }) : Op2 Γ n env st (binaryOp .Mult) (.list [v]) (.int x) Q := Op2.mulLM h0 hx (by subst hk hst; exact h)
theorem Set3.list2 {k j vs v hp} {P : St → Prop} (ho : st.heap[k]? = some (.list vs)) (h0 : 0 ≤ j) (hj : j < vs.length) (hf : j < 2 ^ 63) (hst : st.heap.set k (.list (vs.set j.toNat v)) = hp) (h : P { st with heap := hp }) : Set3 Γ n env st (.obj k) (.int j) v P := Set3.list ho h0 hj hf (by subst hst; exact h)
theorem Set3.dict2 {k j i es hp} {P : St → Prop} (ho : st.heap[k]? = some (.dict es)) (hl : es.length ≤ 1000) (hst : st.heap.set k (.dict (kdfPut es j i)) = hp) (h : P { st with heap := hp }) : Set3 Γ n env st (.obj k) (.int j) (.int i) P := Set3.dict ho hl (by subst hst; exact h)
theorem Cal.fnC2 {a : Addr} {fd : FuncData} {body : List Stmt} {vs : List V} {bv : List (Str × V)} {Q : V → St → Prop} {hp : List O} {cl : List (Str × Nat)} (cn : List Str) (D : DefIs Γ a fd) (hbody : fd.body = .stmts body)
    (hbind : ∀ as ρ φ h, VRs Γ.prog Γ.w ρ φ h vs as → ∃ bs, bindArgs fd ⟨as, []⟩ = pure bs ∧ BRs Γ.prog Γ.w ρ φ h bv bs)
    (hcn : cellNames fd.scope.names = cn) (hnd : cn.Nodup) (hloc : ((bv.map (·.1)).all fun x => fd.scope.names.lookup x == some .local) = true) (hst : st.heap ++ cn.map (fun _ => O.cell none) = hp) (hcl : cellIds cn st.heap.length = cl)
    (h : ∀ L, Exs Γ n (callEnvC fd L a) { loc := bv.reverse, cl := cl, heap := hp, pin := st.pin } body (fun f st' => RetQ (fun w st'' => Q w { loc := st.loc, cl := st.cl, heap := st''.heap, pin := st.pin }) f st'))
    (hclo : fd.closure = [] := by rfl) (hco : fd.scope.isCoroutine = false := by rfl) (hgen : fd.scope.isGenerator = false := by rfl) (hk : fd.scope.kind = .function := by rfl) :
    Cal Γ (n + 1) env st (.val (.ref a)) vs Q := Cal.fnC cn D hbody hbind hcn hnd hloc (by subst hst hcl; exact h) hclo hco hgen hk
theorem Ex.delS2 {o i p pos} {Q : Fl → St → Prop} (h : Ev Γ n env st o fun ov st1 => Ev Γ n env st1 i fun iv st2 => ∃ k j vs hp, ov = .obj k ∧ iv = .int j ∧ st2.heap[k]? = some (.list vs) ∧ 0 ≤ j ∧ j < vs.length ∧ vs.length ≤ 1000 ∧ st2.heap.set k (.list (vs.eraseIdx j.toNat)) = hp ∧ Q .next { st2 with heap := hp }) :
    Ex Γ n env st (.Delete [.Subscript o i p] pos) Q := Ex.delS (h.mono fun ov st1 h1 => h1.mono fun iv st2 ⟨k, j, vs, hp, e1, e2, e3, e4, e5, e6, e7, q⟩ => ⟨k, j, vs, e1, e2, e3, e4, e5, e6, by subst e7; exact q⟩)
theorem cmp2 {st1 : St} {elt : Expr} {gens : List Comprehension} {scope : Scope} {pos : Pos} {vs : List V} {k : Nat} {hp : List O} (cl : List (Str × Nat)) {Q : List V → Prop} (hcl : st1.cl.filter (fun p => takesIn scope p.1) = cl) (hst : st1.heap ++ [.list []] = hp) (hk : st1.heap.length = k)
    (h : ∀ C, CL Γ n (compEnvC scope (freeCells scope env) C env) { loc := [], cl := cl, heap := hp, pin := st1.pin } (.ListComp elt gens scope pos) 0 vs k fun st' => ∃ xs, st'.heap = st1.heap ++ [.list xs] ∧ Fzs xs ∧ Q xs) :
    ∀ C, CL Γ n (compEnvC scope (freeCells scope env) C env) { loc := [], cl := st1.cl.filter (fun p => takesIn scope p.1), heap := st1.heap ++ [.list []], pin := st1.pin } (.ListComp elt gens scope pos) 0 vs st1.heap.length fun st' => ∃ xs, st'.heap = st1.heap ++ [.list xs] ∧ Fzs xs ∧ Q xs := by
  subst hcl hst hk; exact h
theorem Op2.itemI {o i v} {ns : List Int} {k : Int} {Q : V → St → Prop} (hs : ∀ a b, subscripted i false a b = operate [a, b] (getItem a b)) (hl : st.lst v (ns.map .int)) (h0 : 0 ≤ k) (hk : k < ns.length) (hb : ns.length ≤ 100000) (h : Q (.int (ns.getD k.toNat 0)) st) : Op2 Γ n env st (subscriptTail o i) v (.int k) Q := by
  have hlt : k.toNat < ns.length := by omega
  refine Op2.itemL hs hl h0 (x := .int (ns.getD k.toNat 0)) ?_ (by omega) h
  rw [List.getElem?_map, List.getElem?_eq_getElem hlt]
  simp [List.getD_eq_getElem?_getD, hlt]
end

end

section
open PySem PySem.Calls PyProof.Rows PySem.W
theorem lk {α : Type} {x y : Str} {v : α} {l : List (Str × α)} {r : Option α} (h : l.lookup x = r) (hn : x ≠ y := by decide) : ((y, v) :: l).lookup x = r := by rw [lookup_put, if_neg hn]; exact h
theorem lk0 {α : Type} {x : Str} {v : α} {l : List (Str × α)} : ((x, v) :: l).lookup x = some v := by rw [lookup_put, if_pos rfl]
theorem lkb {α : Type} {x y : Str} {v : α} {l : List (Str × α)} {r : Option α} (hn : (x == y) = false) (h : l.lookup x = r) : ((y, v) :: l).lookup x = r := by rw [lookup_put, if_neg (beq_eq_false_iff_ne.mp hn)]; exact h
end


section
open PySem PySem.Calls PyProof.Rows PySem.W
section
variable {Γ : Gam} {n : Nat} {env : Env} {st : St} {Q : V → St → Prop}
/-- a call with one keyword -/
noncomputable def CalK (Γ : Gam) (n : Nat) (env : Env) (st : St) (f : V) (vs : List V) (kn : Str) (kw : V) (Q : V → St → Prop) : Prop :=
  ∀ A s ρ φ a as b, AOk n A → Rep Γ env ρ φ st s → VR Γ.prog Γ.w ρ φ s.heap f a → VRs Γ.prog Γ.w ρ φ s.heap vs as → VR Γ.prog Γ.w ρ φ s.heap kw b → wpAny (model Γ.prog Γ.w) A (call a as [(kn, b)]) (Post Γ env ρ φ s.heap (VR Γ.prog Γ.w) Q) (fun _ _ => False) s
theorem Ev.callK {func e es kn kv kp pos} (h : Ev Γ n env st func fun f st1 => ∃ fv, f = .val fv ∧ KP Γ fv ∧ Arg Γ n env st1 pos (e :: es) fun vs st2 => Ev Γ n env st2 kv fun kw st3 => CalK Γ n env st3 f vs kn kw Q)
    (he : eval (.Call func (e :: es) [⟨some kn, kv, kp⟩] pos) env = (do callWith pos (← eval func env) [] (backTo pos (starEach (e :: es) env)) (backToKw pos (keywordEach [⟨some kn, kv, kp⟩] env))) := by rfl)
    (he2 : starEach (e :: es) env = (false, eval e env) :: starEach es env := by rfl) (hplain : (backTo pos (starEach es env)).any (·.1) = false := by rfl) :
    Ev Γ n env st (.Call func (e :: es) [⟨some kn, kv, kp⟩] pos) Q := fun A s ρ φ hA r => by
  rw [he]
  refine wpAny_bind (J.use h hA r fun a s1 ρ1 f st1 x1 r1 v1 q1 => ?_)
  obtain ⟨fv, rfl, hk, q1⟩ := q1
  obtain rfl := v1.val_inv
  refine callWith_of (P := Γ.In) (by rw [he2]; show ((false || (backTo pos (starEach es env)).any (·.1)) || false) = false; rw [hplain]; rfl) hk (evalArgs_kw2 rfl ?_ he2)
  refine wpAny_mono (q1 A s1 ρ1 φ hA r1) (fun as s2 ⟨ρ2, vs, st2, x2, r2, v2, q3⟩ => ?_) fun _ _ z => z.elim
  refine kwAll_cons (wpAny_mono (q3 A s2 ρ2 φ hA r2) (fun b s3 ⟨ρ3, kw, st3, x3, r3, v3, q4⟩ => kwAll_nil ⟨r3.base, ?_⟩) fun _ _ z => z.elim)
  exact wpAny_mono (q4 A s3 ρ3 φ _ _ _ hA r3 (.val _) (v2.up (x3.up r3.own)) v3) (fun _ _ p => ((p.trans x3).trans x2).trans x1) fun _ _ z => z

theorem CalK.fn {a : Addr} {fd : FuncData} {body : List Stmt} {vs : List V} {kn : Str} {kw : V} {bv : List (Str × V)} (D : DefIs Γ a fd) (hbody : fd.body = .stmts body)
    (hbind : ∀ s as b ρ φ, Γ.In s.heap → VRs Γ.prog Γ.w ρ φ s.heap vs as → VR Γ.prog Γ.w ρ φ s.heap kw b → ∃ bs, BindsTo s fd ⟨as, [(kn, b)]⟩ bs ∧ BRs Γ.prog Γ.w ρ φ s.heap bv bs)
    (hcell : (fd.scope.names.all fun x => x.2 != .cell) = true) (hloc : ((bv.map (·.1)).all fun x => fd.scope.names.lookup x == some .local) = true)
    (h : ∀ L, Exs Γ n (callEnv fd L a) { loc := bv.reverse, cl := [], heap := st.heap, pin := st.pin } body (fun f st' => RetQ (fun w st'' => Q w { loc := st.loc, cl := st.cl, heap := st''.heap, pin := st.pin }) f st'))
    (hco : fd.scope.isCoroutine = false := by rfl) (hgen : fd.scope.isGenerator = false := by rfl) (hk : fd.scope.kind = .function := by rfl) :
    CalK Γ (n + 1) env st (.val (.ref a)) vs kn kw Q := fun A s ρ φ fv as b hA r hf hv hw => by
  obtain rfl := hf.val_inv
  obtain ⟨o, hB, hd⟩ := D.obj
  obtain ⟨bs, hb, hbr⟩ := hbind s as b ρ φ r.base hv hw
  have hL := size_none s.heap
  refine wpAny_call (codeAny_call_def (fd := fd) (body := body) (binds := bs) (by have := hA.depth; unfold recursionLimit; omega) (r.base _ _ hB) hd (D.nolim _ r.base) (D.code _ r.base) hbody hb (fun x hx => by simpa using List.all_eq_true.mp hcell x hx)
    (fun x hx => by simpa using List.all_eq_true.mp hloc x.1 (by rw [hbr.fst]; exact List.mem_map_of_mem hx)) (fun h₁ hn hk1 => ?_) hco hgen hk)
  have r1 := r.enter (env' := callEnv fd s.heap.objs.size a) (tk := s.toks + bs.length) hL hn hk1 (loc := bv.reverse) (fun x v e => hbr.reverse.lookup e)
  refine wpAny_mono (h s.heap.objs.size _ _ ρ _ hA.deeper r1) (fun f s' ⟨ρ', fl, st', x, r', vf, q⟩ => ?_) fun _ _ z => z.elim
  have x0 : Ext (callEnv fd s.heap.objs.size a).locals ρ ρ' s.heap s'.heap := (Ext.grow hk1).trans x
  obtain ⟨y1, y2, y3⟩ := r.leave hL r' x0
  cases fl with
  | next => cases vf; exact Post.mk y1 y3 (b := V.none) .none q
  | brk => cases vf; exact Post.mk y1 y3 (b := V.none) .none q
  | cont => cases vf; exact Post.mk y1 y3 (b := V.none) .none q
  | ret w => obtain ⟨b, rfl, hw⟩ := vf; exact Post.mk y1 y3 (hw.up y2) q

/-- a lambda's call -/
theorem Cal.lam {nm q : Str} {ps : Arguments} {e : Expr} {sc : Scope} {x : Str} {k : Nat} {vs : List V} {bv : List (Str × V)} (hnl : ∀ h, Γ.In h → h.NoLimit)
    (hbind : ∀ clos pm c ctv as ρ φ h, VRs Γ.prog Γ.w ρ φ h vs as → ∃ bs, bindArgs (kla_fn nm q ps e sc clos pm c ctv) ⟨as, []⟩ = pure bs ∧ BRs Γ.prog Γ.w ρ φ h bv bs)
    (hcell : (sc.names.all fun x => x.2 != .cell) = true) (hloc : ((bv.map (·.1)).all fun x => sc.names.lookup x == some .local) = true)
    (h : ∀ a pm c ctv L f, Ev Γ n (callEnv (kla_fn nm q ps e sc [(x, a)] pm c ctv) L f) { loc := bv.reverse, cl := [(x, k)], heap := st.heap, pin := st.pin } e (fun v st' => Q v { loc := st.loc, cl := st.cl, heap := st'.heap, pin := st.pin }))
    (hco : sc.isCoroutine = false := by rfl) (hgen : sc.isGenerator = false := by rfl) (hk : sc.kind = .function := by rfl) :
    Cal Γ (n + 1) env st (.lam nm q ps e sc x k) vs Q := fun A s ρ φ fv as hA r hf hv => by
  cases hf with
  | @lam _ _ _ _ _ _ _ f a pm c ctv ho hfρ hfφ hka hcode =>
  cases hcode with
  | @code _ _ oc vs' t hc hdc hq hcρ hcφ =>
  obtain ⟨bs, hb, hbr⟩ := hbind [(x, a)] pm (.ref c) ctv as ρ φ s.heap hv
  have hL := size_none s.heap
  refine wpAny_call (kla_callFunE (by have := hA.depth; unfold recursionLimit; omega) ho rfl hco hgen rfl ⟨c, oc, vs', t, rfl, hc, hdc, hq⟩ ?_)
  rw [hb]
  refine wpAny_pure (wpAny_newFunctionEnv (fun x hx => by simpa using List.all_eq_true.mp hcell x hx)
    (fun x hx => by simpa using List.all_eq_true.mp hloc x.1 (by rw [hbr.fst]; exact List.mem_map_of_mem hx)) (fun h₁ hns hsb => ?_) hk)
  have hk1 : ∀ b o, s.heap.get? b = some o → h₁.get? b = some o := fun b o e => hsb.extBut b o (Nat.ne_of_lt (Heap.lt_size e)) (Heap.get?_push_of_some _ e)
  refine ⟨hnl _ fun b o e => hk1 b o (r.base b o e), ?_⟩
  show codeAny _ _ (.expr e (callEnv (kla_fn nm q ps e sc [(x, a)] pm (.ref c) ctv) s.heap.objs.size f)) _ _
  have r1 := (r.enter (env' := callEnv (kla_fn nm q ps e sc [(x, a)] pm (.ref c) ctv) s.heap.objs.size f) (tk := s.toks + bs.length) hL hns hk1 (loc := bv.reverse) (fun x v e => hbr.reverse.lookup e)).withCells (cl := [(x, k)]) (fun y j e => by
    rw [lookup_put] at e
    by_cases q : y = x
    · rw [if_pos q] at e; cases e
      exact ⟨a, by show ([(x, a)] : List (Str × Addr)).lookup y = _; rw [lookup_put, if_pos q], hka⟩
    · rw [if_neg q] at e; simp at e)
  refine kla_codeExpr (wpAny_mono (h a pm (.ref c) ctv s.heap.objs.size f _ _ ρ _ hA.deeper r1) (fun v s' ⟨ρ', w, st', x', r', vf, qq⟩ => ?_) fun _ _ z => z.elim)
  have x0 : Ext (callEnv (kla_fn nm q ps e sc [(x, a)] pm (.ref c) ctv) s.heap.objs.size f).locals ρ ρ' s.heap s'.heap := (Ext.grow hk1).trans x'
  obtain ⟨y1, y2, y3⟩ := r.leave hL r' x0
  exact Post.mk y1 y3 (vf.up y2) qq

/-- a lambda: its code is laid at the first time -/
theorem Ev.lam {K : Frag} (G : Grd Γ K) {params : Arguments} {body : Expr} {scope : Scope} {pos : Pos} {c P : Addr} {kt k : Nat} {tab : List V} {hp : List O} {x : Str}
    (hdef : defaultsOf params env = ([], [])) (hg : env.globals = mainGlobals) (hcode : env.code = .ref c) (hC : ∀ h, Γ.In h → CodeHd h c P)
    (hfc : freeCells scope env = ((env.cells.lookup x).map fun a => (x, a)).toList) (hall : (scope.names.all fun p => p.2 != .free || (env.cells.lookup p.1).isSome) = true)
    (hcl : st.cl.lookup x = some k) (hpin : (kt, P) ∈ st.pin) (hT : st.heap[kt]? = some (.tab tab))
    (htab : tab = [] ∨ tab = [.int pos.line, .int pos.col, .code (env.qual ++ "<lambda>")])
    (hst : st.heap.set kt (.tab [.int pos.line, .int pos.col, .code (env.qual ++ "<lambda>")]) = hp)
    (h : Q (.lam "<lambda>" (env.qual ++ "<lambda>") params body scope x k) { st with heap := hp }) : Ev Γ n env st (.Lambda params body scope pos) Q := fun A s ρ φ hA r => by
  obtain ⟨a, hca, hρa⟩ := r.cells x k hcl
  have hcl' : closureFor scope env = pure [(x, a)] := by rw [closureFor_eq hall, hfc, hca]; rfl
  have hPρ : ρ[kt]? = some P := r.pins _ hpin
  have hPm : P ∈ ρ := List.mem_of_getElem? hPρ
  obtain ⟨P', e1, hO⟩ := r.heap kt _ hT
  rw [hPρ] at e1; cases e1
  obtain ⟨mg, hmg, hbm⟩ := G.bm
  obtain ⟨hbA, hgP⟩ := hbm P s.heap (r.freshR P hPm) r.base
  cases hO with
  | @tab _ its hP hits =>
  refine kla_eval hdef ?_
  rcases htab with rfl | rfl
  · have hi : its = #[] := by
      cases its with | mk l => cases hits; rfl
    subst hi
    refine kla_makeFunction (mg := mg) hcl' hg (hmg _ r.base) hcode (hC _ r.base) hP trivial rfl hgP hbA fun c' ctv h' tk hx hge hlt hrec htb => ?_
    have hsz : s.heap.objs.size ≤ h'.objs.size := Nat.le_trans hge (Nat.le_of_lt hlt)
    have hxp : ∀ b o, b ≠ P → s.heap.get? b = some o → (h'.push (kla_obj "<lambda>" (env.qual ++ "<lambda>") params body scope [(x, a)] ((mg "__name__").getD Value.none) c' ctv)).get? b = some o := fun b o hb e => Heap.get?_push_of_some _ (hx b o hb e)
    have hPn := Heap.get?_push_of_some (kla_obj "<lambda>" (env.qual ++ "<lambda>") params body scope [(x, a)] ((mg "__name__").getD Value.none) c' ctv) htb
    have hne : ∀ b, b ∉ ρ → b ≠ P := fun b hb q => hb (q ▸ hPm)
    have u : Up ρ φ ρ φ s.heap (h'.push (kla_obj "<lambda>" (env.qual ++ "<lambda>") params body scope [(x, a)] ((mg "__name__").getD Value.none) c' ctv)) := ⟨List.prefix_rfl, fun b o e h1 h2 => ⟨hxp b o (hne b h1) e, h1, h2⟩⟩
    have hfc' := r.fresh (Heap.get?_none_of_le hge)
    have hff := r.fresh (Heap.get?_none_of_le hsz)
    obtain ⟨c2, oc, vsc, tc, ec, hoc, hdc, hqc⟩ := hrec
    cases ec
    have hcodeV : VR Γ.prog Γ.w ρ φ (h'.push (kla_obj "<lambda>" (env.qual ++ "<lambda>") params body scope [(x, a)] ((mg "__name__").getD Value.none) c' ctv)) (.code (env.qual ++ "<lambda>")) (.ref c') := .code (Heap.get?_push_of_some _ hoc) hdc hqc hfc'.1 hfc'.2
    refine Post.mk (st' := { st with heap := hp }) (b := V.lam "<lambda>" (env.qual ++ "<lambda>") params body scope x k) (ρ' := ρ) ?_ ?_ (.lam (Heap.get?_push_size _ rfl) hff.1 hff.2 hρa hcodeV) h
    · exact ⟨List.prefix_rfl, fun _ h => .inl h, fun b o e hb _ => hxp b o (hne b hb) e, fun b o e => by
        by_cases q : b = P
        · subst q; exact ⟨_, hPn⟩
        · exact ⟨o, hxp b o q e⟩⟩
    · refine ⟨(let ⟨h0, t, e⟩ := r.same; ⟨_, tk, by rw [e]⟩), fun b o e => hxp b o (fun q => ?_) (r.base b o e), by rw [← hst, List.length_set]; exact r.len, r.nodup, r.freshR, r.freshF, r.disj, fun j o e => ?_, r.own, fun b hb => ?_, ?_, r.cells, r.pins⟩
      · rw [q, r.freshR P hPm] at e; cases e
      · simp only [← hst, List.getElem?_set] at e
        by_cases q : kt = j
        · subst q
          rw [if_pos rfl, if_pos (List.getElem?_eq_some_iff.mp hT).1] at e
          cases e
          exact ⟨P, hPρ, .tab hPn (.cons (.int _ _) (.cons (.int _ _) (.cons hcodeV .nil)))⟩
        · rw [if_neg q] at e
          obtain ⟨b, f1, f2⟩ := r.heap j o e
          refine ⟨b, f1, f2.up u fun o e => hxp b o (fun z => q ?_) e⟩
          exact (List.getElem?_inj (List.getElem?_eq_some_iff.mp hPρ).1 r.nodup).mp (by rw [hPρ, f1, z])
      · obtain ⟨o, e⟩ := r.live b hb
        exact ⟨o, hxp b o (fun q => r.disj P hPm (q ▸ hb)) e⟩
      · obtain ⟨m, hm, hf⟩ := r.frame
        exact ⟨m, hm.at' fun o e => hxp _ o (fun q => r.disj P hPm (q ▸ r.own)) e, fun y w hy => let ⟨v', e1, e2⟩ := hf y w hy; ⟨v', e1, e2.up u⟩⟩
  · have hset : st.heap.set kt (.tab [.int pos.line, .int pos.col, .code (env.qual ++ "<lambda>")]) = st.heap := by
      apply List.ext_getElem?
      intro j
      rw [List.getElem?_set]
      by_cases q : kt = j
      · subst q; rw [if_pos rfl, if_pos (List.getElem?_eq_some_iff.mp hT).1, hT]
      · rw [if_neg q]
    rw [hset] at hst
    subst hst
    cases its with | mk l =>
    cases hits with | cons i1 hits => cases hits with | cons i2 hits => cases hits with | @cons _ cv _ _ i3 hits =>
    cases hits
    cases i1; cases i2
    cases i3 with
    | @code _ c' oc vsc tc hoc hdc hqc hcρ hcφ =>
    refine kla_makeFunctionHit (cv := .ref c') (mg := mg) hcl' hg (hmg _ r.base) hcode (hC _ r.base) hP trivial (by simp [codeAmong]) hbA fun ctv h' tk hk hsz => ?_
    have hk' : ∀ b o, s.heap.get? b = some o → (h'.push { cls := .type "function", data := .func (kla_fn "<lambda>" (env.qual ++ "<lambda>") params body scope [(x, a)] ((mg "__name__").getD .none) (.ref c') ctv) }).get? b = some o := fun b o e => Heap.get?_push_of_some _ (hk b o e)
    have hff := r.fresh (Heap.get?_none_of_le hsz)
    exact Post.mk (b := V.lam "<lambda>" (env.qual ++ "<lambda>") params body scope x k) (Ext.grow hk') (r.grow hk') (.lam (Heap.get?_push_size _ rfl) hff.1 hff.2 hρa (.code (hk' _ _ hoc) hdc hqc hcρ hcφ)) h
theorem Ev.callL {func e es pos nm q ps ee sc x k} (h : Ev Γ n env st func fun f st1 => f = .lam nm q ps ee sc x k ∧ Arg Γ n env st1 pos (e :: es) fun vs st2 => Cal Γ n env st2 (.lam nm q ps ee sc x k) vs Q)
    (he : eval (.Call func (e :: es) [] pos) env = (do callWith pos (← eval func env) [] (backTo pos (starEach (e :: es) env)) (backToKw pos (keywordEach [] env))) := by rfl)
    (he2 : starEach (e :: es) env = (false, eval e env) :: starEach es env := by rfl) :
    Ev Γ n env st (.Call func (e :: es) [] pos) Q := fun A s ρ φ hA r => by
  rw [he]
  refine wpAny_bind (J.use h hA r fun a s1 ρ1 f st1 x1 r1 v1 q1 => ?_)
  obtain ⟨rfl, q1⟩ := q1
  have v1' := v1
  cases v1 with
  | @lam _ _ _ _ _ _ _ f a pm c ctv ho hfρ hfφ hka hcode =>
  have q2 := fun A s ρ φ hA r => q1 A s ρ φ hA r
  rw [he2] at q2 ⊢
  refine callWith_def_kw (keywords := []) (o := kla_obj nm q ps ee sc [(x, a)] pm c ctv) rfl (evalArgs_plain ?_)
  refine wpAny_mono (q2 A s1 ρ1 φ hA r1) (fun as s2 ⟨ρ2, vs, st2, x2, r2, v2, q3⟩ => ⟨x2.kept _ _ ho hfρ fun z => hfφ (z ▸ r1.own), ?_⟩) fun _ _ z => z.elim
  exact wpAny_mono (q3 A s2 ρ2 φ _ _ hA r2 (v1'.up (x2.up r2.own)) v2) (fun _ _ p => (p.trans x2).trans x1) fun _ _ z => z
theorem Op2.isLam {nm q ps ee sc x k} (h : Q (.bool false) st) : Op2 Γ n env st (compareOp .Is) (.lam nm q ps ee sc x k) .none Q := by
  intro A s ρ φ a b hA r ha hb; cases ha; cases hb
  exact wpAny_is_other rfl (by simp) (Post.here r (.bool _) h)
end

end

section
open PySem PySem.Calls PyProof.Rows PySem.W
section
variable {Γ : Gam} {n : Nat} {env : Env} {st : St}
noncomputable def OFz : O → Prop
  | .cell (some v) => Fz v
  | _ => False
/-- what two statements leave: a new list of flat values that x names, and little else -/
noncomputable def Frz (Γ : Gam) (n : Nat) (env : Env) (st : St) (x : Str) (rest : List Stmt) (Q : Fl → St → Prop) (st2 : St) : Prop :=
  ∃ (loc : List (Str × V)) (hp : List O) (vs : List V) (loc' : List (Str × V)), st2 = { loc := loc, cl := st.cl, heap := hp ++ [.list vs], pin := st.pin } ∧ hp.length = st.heap.length ∧ Fzs vs ∧ loc.lookup x = some (.obj hp.length) ∧
    (∀ (j : Nat) (o : O), hp[j]? = some o → st.heap[j]? = some o ∨ OFz o) ∧ (∀ (y : Str) (v : V), loc'.lookup y = some v → loc.lookup y = some v ∧ (st.loc.lookup y = some v ∨ Fz v)) ∧
    Exs Γ n env { loc := (x, .list vs) :: loc', cl := st.cl, heap := hp, pin := st.pin } rest Q
theorem Frz.use {x rest Q ρ φ ρ2 s s2 st2} (F : Frz Γ n env st x rest Q st2) (r : Rep Γ env ρ φ st s) (X : Ext env.locals ρ ρ2 s.heap s2.heap) (r2 : Rep Γ env ρ2 φ st2 s2) :
    ∃ st3, Ext env.locals ρ ρ s.heap s2.heap ∧ Rep Γ env ρ φ st3 s2 ∧ Exs Γ n env st3 rest Q := by
  obtain ⟨loc, hp, vs, loc', rfl, hlen, hfz, hx, hhp, hlo, hE⟩ := F
  obtain ⟨t, rfl⟩ := X.pre
  have hl1 := r.len
  have hl2 := r2.len
  obtain ⟨l, rfl⟩ : ∃ l, t = [l] := by
    match t, hl2 with
    | [], h => simp at h; omega
    | [l], _ => exact ⟨l, rfl⟩
    | a :: b :: t, h => simp at h; omega
  have hnd := List.nodup_append.mp r2.nodup
  have hlρ : l ∉ ρ := fun q => hnd.2.2 l q l (by simp) rfl
  have hlφ : l ∉ φ := r2.disj l (by simp)
  have hsub : ∀ b, b ∈ ρ → b ∈ ρ ++ [l] := fun b hb => List.mem_append_left _ hb
  refine ⟨_, ⟨List.prefix_rfl, fun _ h => .inl h, X.kept, X.live⟩, ?_, hE⟩
  refine ⟨r2.same, r2.base, by rw [hl1, hlen], r.nodup, r.freshR, r.freshF, r.disj, fun k o e => ?_, r.own, r2.live, ?_, r.cells, r.pins⟩
  · have hk : k < hp.length := (List.getElem?_eq_some_iff.mp e).1
    have hkρ : k < ρ.length := by rw [hl1, ← hlen]; exact hk
    obtain ⟨a, f1, f2⟩ := r2.heap k o (by show (hp ++ [O.list vs])[k]? = _; rw [List.getElem?_append_left hk]; exact e)
    rw [List.getElem?_append_left hkρ] at f1
    refine ⟨a, f1, ?_⟩
    rcases hhp k o e with h1 | h1
    · obtain ⟨a', g1, g2⟩ := r.heap k o h1
      rw [f1] at g1; cases g1
      exact g2.low f2
    · cases o with
      | cell c =>
        cases c with
        | none => exact h1.elim
        | some v =>
          cases f2 with
          | cellS g1 g2 g3 => exact .cellS g1 g2 (Fz.low h1 g3 hsub)
      | list _ => exact h1.elim
      | dict _ => exact h1.elim
      | tab _ => exact h1.elim
  · obtain ⟨m, hm, hf⟩ := r2.frame
    refine ⟨m, hm, fun y v e => ?_⟩
    by_cases q : y = x
    · subst q
      have e' : some (V.list vs) = some v := by simpa using e
      cases e'
      obtain ⟨v', e1, e2⟩ := hf y _ hx
      refine ⟨v', e1, ?_⟩
      cases e2 with
      | obj e3 =>
        obtain ⟨a, f1, f2⟩ := r2.heap hp.length (.list vs) (by show (hp ++ [O.list vs])[hp.length]? = _; simp)
        rw [e3] at f1; cases f1
        rw [hlen, ← hl1] at e3
        simp at e3
        subst e3
        cases f2 with
        | list g1 g2 => exact .list g1 hlρ hlφ (Fzs.low hfz g2 hsub)
    · have e' : loc'.lookup y = some v := by
        have : ((x, V.list vs) :: loc').lookup y = some v := e
        rw [lookup_put, if_neg q] at this; exact this
      obtain ⟨e1, e2⟩ := hlo y v e'
      obtain ⟨v', f1, f2⟩ := hf y v e1
      refine ⟨v', f1, ?_⟩
      rcases e2 with e2 | e2
      · obtain ⟨m0, _, hf0⟩ := r.frame
        obtain ⟨v0, _, g2⟩ := hf0 y v e2
        exact VR.low g2 f2 rfl
      · exact Fz.low e2 f2 hsub
theorem Exs.frz2 {s1 s2 : Stmt} {rest : List Stmt} {Q : Fl → St → Prop} (x : Str) (h : Ex Γ n env st s1 fun f st1 => f = .next ∧ Ex Γ n env st1 s2 fun f st2 => f = .next ∧ Frz Γ n env st x rest Q st2) : Exs Γ n env st (s1 :: s2 :: rest) Q :=
  fun A s ρ φ hA r => wpAny_execs_cons (J.use h hA r fun f s1 ρ1 b st1 x1 r1 v ⟨q, h2⟩ => by
    subst q; cases v
    exact wpAny_execs_cons (J.use h2 hA r1 fun f s2 ρ2 b st2 x2 r2 v ⟨q, F⟩ => by
      subst q; cases v
      obtain ⟨st3, y1, y2, y3⟩ := F.use r (x1.trans x2) r2
      exact wpAny_mono (y3 A s2 ρ φ hA y2) (fun _ _ p => p.trans y1) fun _ _ z => z))
theorem Ev.negI {e pos} {Q : V → St → Prop} (h : Ev Γ n env st e fun v st1 => ∃ i, v = .int i ∧ Q (.int (-i)) st1) : Ev Γ n env st (.UnaryOp .USub e pos) Q := fun A s ρ φ hA r =>
  wpAny_UnaryOp (J.use h hA r fun a s1 ρ1 v st1 x1 r1 v1 ⟨i, q, h1⟩ => by
    subst q; cases v1
    exact neg_int (Post.mk x1 (r1.tok _) (b := V.int (-i)) (.int _ _) h1))
end

end

section
open PySem PySem.Calls PyProof.Rows PySem.W
section
variable {Γ : Gam} {n : Nat} {env : Env} {st : St}
/-- the front of a list of ints of the ground -/
theorem Ev.uptoV {o e p pos} {a : Addr} {as : List Value} {ws : List Int} {Q : V → St → Prop} (hB : ∀ h, Γ.In h → h.IsList a as.toArray) (hI : IntsAre as ws) (hs : ws.length ≤ 1000)
    (h : Ev Γ n env st o fun ov st1 => ov = .val (.ref a) ∧ Ev Γ n env st1 e fun iv st2 => ∃ i : Nat, iv = .int i ∧ Q (.list ((ws.take i).map .int)) st2) : Ev Γ n env st (.Subscript o (.Slice Option.none (some e) Option.none p) pos) Q := fun A s ρ φ hA r => by
  have h' : Ev Γ n env st o fun ov st1 => Prt Γ n env st1 Option.none fun l st2 => Prt Γ n env st2 (some e) fun u st3 => Prt Γ n env st3 Option.none fun t st4 => ov = .val (.ref a) ∧ l = Option.none ∧ t = Option.none ∧ ∃ i : Nat, u = some (i : Int) ∧ Q (.list ((ws.take i).map .int)) st4 :=
    h.mono fun ov st1 h1 => Prt.none (Prt.int (h1.2.mono fun iv st2 ⟨i, e, q⟩ => ⟨i, e, Prt.none ⟨h1.1, rfl, rfl, i, rfl, q⟩⟩))
  refine Subscript_ (J.use h' hA r fun av s1 ρ1 ov st1 x1 r1 v1 q1 => wpAny_Slice (J.use q1 hA r1 fun lv s2 ρ2 l st2 x2 r2 v2 q2 => J.use q2 hA r2 fun uv s3 ρ3 u st3 x3 r3 v3 q3 => J.use q3 hA r3 fun tv s4 ρ4 t st4 x4 r4 v4 q4 => ?_))
  obtain ⟨rfl, rfl, rfl, i, rfl, q⟩ := q4
  obtain rfl := v1.val_inv
  have hlen : as.length = ws.length := (VRs.of_ints (p := Γ.prog) (w := Γ.w) (ρ := ρ4) (φ := φ) (h := s4.heap) hI).length.symm.trans (by simp)
  have e := hB _ r4.base
  have k1 : ∀ b o, s4.heap.get? b = some o → (s4.heap.push { cls := .type "slice", data := .fields #[lv, uv, tv] }).get? b = some o := fun b o e => Heap.get?_push_of_some _ e
  have r5 := r4.grow (tk := s4.toks) k1
  have e' : (s4.heap.push { cls := .type "slice", data := .fields #[lv, uv, tv] }).IsList a as.toArray := e.push _
  refine tail_any (ops := [.ref s4.heap.objs.size, .ref a]) e'.typeIs slot_list_getitem.lookup (wpAny_getItem_list_slice e' (Heap.IsSliceOf.new ..) v2 v3 v4 (by simp) ?_ (by rw [sizeLine_eq]; simp; omega)) rfl
  have k2 : ∀ b o, s4.heap.get? b = some o → ((s4.heap.push { cls := .type "slice", data := .fields #[lv, uv, tv] }).push (listOf (slicePick as.toArray Option.none (some (i : Int)) Option.none) 0)).get? b = some o := fun b o e => Heap.get?_push_of_some _ (k1 b o e)
  have hf5 := r5.fresh (size_none _)
  refine Post.mk (b := V.list ((ws.take i).map .int)) (((x1.trans x2).trans (x3.trans x4)).trans (Ext.grow k2)) (r4.grow (tk := s4.toks) k2) (.list (n := 0) (Heap.get?_push_size _ rfl) hf5.1 hf5.2 ?_) q
  rw [slicePick_upto']
  exact VRs.of_ints (hI.take i)
/-- a list taken apart -/
theorem Asg.tupL {elts k tp} {vs : List V} {P : St → Prop} (names : List (Str × Pos)) (he : elts = names.map fun p => Expr.Name p.1 p.2) (hl : vs.length = names.length) (h : StoN Γ n env (names.map (·.1)) vs st P) : Asg Γ n env st (.Tuple elts k tp) (.list vs) P := fun A s ρ φ a hA r hv => by
  subst he
  cases hv with
  | @list _ b its m e1 f1 f2 g =>
    have hL : s.heap.IsList b its := isList_of e1
    rw [assign_Tuple]
    refine wpAny_bind (wpAny_standAt ?_)
    unfold unpack
    rw [show (assignEach (names.map fun p => Expr.Name p.1 p.2) env).length = its.size by rw [assignEach_names, List.length_map, ← hl, g.length]; simp, show (assignEach (names.map fun p => Expr.Name p.1 p.2) env).findIdx? (·.1) = Option.none by rw [assignEach_names]; simp]
    refine wpAny_bind (wpAny_holding (kun_itemsOf hA.handled hL fun h' hx => ?_))
    have k1 : ∀ b o, s.heap.get? b = some o → h'.get? b = some o := fun b o e => hx b o (Nat.ne_of_lt (Heap.lt_size e)) e
    have r2 := r.grow (tk := s.toks) k1
    rw [assignEach_names, List.map_map]
    exact wpAny_mono (StoN.run names vs its.toList st A { s with heap := h' } hl hA r2 (g.up (Up.grow k1)) h) (fun _ s3 ⟨st3, x3, r3, q3⟩ => ⟨st3, (Ext.grow k1).trans x3, r3, q3⟩) fun _ _ z => z
end

end

section
open PySem PySem.Calls PyProof.Rows PySem.W
theorem isterminal {Γ : Gam} {n env st Q} {i : Int} (G : Grd Γ (K0 Γ)) (h : Q (.bool (decide (i < 256))) st) : Cal Γ (n + 1) env st (.val (.ref 98)) [.int i] Q := by
  refine Cal.fn (bv := [("x", .int i)]) (G.def (a := 98) rfl rfl) rfl ?_ ?_ ?_ ?_
  · intro s as ρ φ hi hv
    cases hv with | cons h1 h2 => cases h2; exact ⟨_, BindsTo.of_eq rfl, .cons h1 .nil⟩
  · kernel_rfl
  · kernel_rfl
  · intro L
    refine Exs.cons (Ex.ret (Ev.cmp (by kernel_rfl) (Ev.loc (by rfl) (by rfl) (by rfl) (by rfl) (Ev.glo (G.gv rfl) (fun _ _ _ => .int _ _) rfl rfl (by rfl) (by rfl) (Op2.ltI ?_)))))
    exact h

end

section
open PySem PySem.Calls PyProof.Rows PySem.W

noncomputable def T2 (a b : Int) (k : Nat) : List (List Int) := (List.range k).map fun (c : Nat) => [a, b, b + 1 + (c : Int)]
noncomputable def T1 (a : Int) (k : Nat) : List (List Int) := (List.range k).flatMap fun (b : Nat) => T2 a (a + 1 + (b : Int)) (5 - (a + 1 + (b : Int) + 1)).toNat
noncomputable def T0 (k : Nat) : List (List Int) := (List.range k).flatMap fun (a : Nat) => T1 (0 + (a : Int)) (5 - ((0 + (a : Int)) + 1)).toNat
noncomputable def threes : List (List Int) := [[0,1,2],[0,1,3],[0,1,4],[0,2,3],[0,2,4],[0,3,4],[1,2,3],[1,2,4],[1,3,4],[2,3,4]]
theorem flat_len {f : Nat → List (List Int)} {b : Nat} (hf : ∀ i, (f i).length ≤ b) : ∀ k, ((List.range k).flatMap f).length ≤ k * b
  | 0 => by simp
  | k + 1 => by
    rw [List.range_succ, List.flatMap_append, List.length_append]
    have := flat_len hf k
    have h2 := hf k
    simp only [List.flatMap_cons, List.flatMap_nil, List.append_nil]
    rw [Nat.succ_mul]; omega
theorem T2_len (a b : Int) (k : Nat) : (T2 a b k).length = k := by simp [T2]
theorem T1_len {a : Int} (h : 0 ≤ a) (k : Nat) : (T1 a k).length ≤ k * 5 := flat_len (fun i => by rw [T2_len]; omega) k
theorem T0_len (k : Nat) : (T0 k).length ≤ k * 25 := flat_len (fun i => by have := T1_len (a := 0 + (i : Int)) (by omega) (5 - ((0 + (i : Int)) + 1)).toNat; omega) k
theorem T0_5 : T0 5 = threes := by decide

theorem intsV_at {a b : Int} {i : Nat} {u : V} (h : (intsV a b)[i]? = some u) : i < (b - a).toNat ∧ u = .int (a + (i : Int)) := by
  unfold intsV at h
  rw [List.getElem?_map] at h
  obtain ⟨j, hj, rfl⟩ := Option.map_eq_some_iff.mp h
  obtain ⟨h1, h2⟩ := List.getElem?_eq_some_iff.mp hj
  simp at h1 h2
  subst h2
  exact ⟨by omega, rfl⟩

set_option maxHeartbeats 4000000 in
theorem law_threes {Γ : Gam} {n env st} {Q : V → St → Prop} (G : Grd Γ (K0 Γ)) (h : Q (.list (LL threes)) st) : Cal Γ (n + 1) env st (.val (.ref 110)) [] Q := by
  refine Cal.fn (bv := []) (G.def (a := 110) rfl rfl) rfl ?_ ?_ ?_ ?_
  · intro s as ρ φ hi hv
    cases hv; exact ⟨_, BindsTo.of_eq rfl, .nil⟩
  · kernel_rfl
  · kernel_rfl
  · intro L
    refine Exs.cons (Ex.ret (Ev.comp ⟨fun _ => rfl, by kernel_rfl, by kernel_rfl, rfl, by kernel_rfl⟩ ?_))
    unfold Cmp
    refine Ev.call ?_
    refine Ev.bui (G.gb rfl boot_range (by decide)) rfl rfl rfl (by kernel_rfl) (by kernel_rfl) ?_
    refine ⟨_, rfl, KP.type, ?_⟩
    refine Arg.cons ?_
    refine Ev.int ?_
    refine Arg.nil ?_
    with_reducible refine Cal.range1 ?_
    refine ⟨_, Itr.rng (by decide) (by decide) (by decide) (by decide), fun C => ?_⟩
    refine CL.more (by rfl) (by rfl) (fun _ => rfl) (fun i st' => ∃ loc, st' = { loc := loc, cl := [], heap := st.heap ++ [.list (LL (T0 i))], pin := st.pin }) ⟨_, rfl⟩ ?_ ?_
    · rintro i st' u ⟨loc, rfl⟩ hu
      obtain ⟨hi, rfl⟩ := intsV_at hu
      refine Asg.name (Sto.loc (by rfl) (by rfl) (Ifs.nil ?_))
      rw [if_pos rfl]
      refine Ev.call ?_
      refine Ev.bui (G.gb rfl boot_range (by decide)) rfl rfl rfl (by kernel_rfl) (by kernel_rfl) ?_
      refine ⟨_, rfl, KP.type, ?_⟩
      refine Arg.cons ?_
      refine Ev.binop ?_
      refine Ev.loc (by (repeat (first | assumption | with_reducible exact lk0 | with_reducible refine lkb (by kernel_rfl) ?_ | simp only [List.reverse_cons, List.reverse_nil, List.nil_append, List.cons_append]))) rfl (by kernel_rfl) (by kernel_rfl) ?_
      refine Ev.int ?_
      with_reducible refine Op2.addI ?_
      refine Arg.cons ?_
      refine Ev.int ?_
      refine Arg.nil ?_
      with_reducible refine Cal.range2 ?_
      refine ⟨_, Itr.rng (by omega) (by omega) (by omega) (by omega), ?_⟩
      refine CL.more (by rfl) (by rfl) (fun _ => rfl) (fun j st' => ∃ loc, st' = { loc := loc, cl := [], heap := st.heap ++ [.list (LL (T0 i ++ T1 (0 + (i : Int)) j))], pin := st.pin } ∧ loc.lookup ("a" : Str) = some (V.int (0 + (i : Int)))) ⟨(("a" : Str), V.int (0 + (i : Int))) :: loc, by simp [T1], lk0⟩ ?_ ?_
      · rintro j st' u ⟨loc, rfl, ha⟩ hu
        obtain ⟨hj, rfl⟩ := intsV_at hu
        refine Asg.name (Sto.loc (by rfl) (by rfl) (Ifs.nil ?_))
        rw [if_pos rfl]
        refine Ev.call ?_
        refine Ev.bui (G.gb rfl boot_range (by decide)) rfl rfl rfl (by kernel_rfl) (by kernel_rfl) ?_
        refine ⟨_, rfl, KP.type, ?_⟩
        refine Arg.cons ?_
        refine Ev.binop ?_
        refine Ev.loc (by (repeat (first | assumption | with_reducible exact lk0 | with_reducible refine lkb (by kernel_rfl) ?_ | simp only [List.reverse_cons, List.reverse_nil, List.nil_append, List.cons_append]))) rfl (by kernel_rfl) (by kernel_rfl) ?_
        refine Ev.int ?_
        with_reducible refine Op2.addI ?_
        refine Arg.cons ?_
        refine Ev.int ?_
        refine Arg.nil ?_
        with_reducible refine Cal.range2 ?_
        refine ⟨_, Itr.rng (by omega) (by omega) (by omega) (by omega), ?_⟩
        refine CL.last (by rfl) (by rfl) (fun k st' => ∃ loc, st' = { loc := loc, cl := [], heap := st.heap ++ [.list (LL (T0 i ++ T1 (0 + (i : Int)) j ++ T2 (0 + (i : Int)) (0 + (i : Int) + 1 + (j : Int)) k))], pin := st.pin } ∧ loc.lookup ("a" : Str) = some (V.int (0 + (i : Int))) ∧ loc.lookup ("b" : Str) = some (V.int (0 + (i : Int) + 1 + (j : Int)))) ⟨(("b" : Str), V.int (0 + (i : Int) + 1 + (j : Int))) :: loc, by simp [T2], lk ha, lk0⟩ ?_ ?_
        · rintro k st' u ⟨loc, rfl, ha, hb⟩ hu
          obtain ⟨hk, rfl⟩ := intsV_at hu
          refine Asg.name (Sto.loc (by rfl) (by rfl) (Ifs.nil ?_))
          rw [if_pos rfl]
          refine Ev.listF ?_
          refine Arg.cons ?_
          refine Ev.loc (by (repeat (first | assumption | with_reducible exact lk0 | with_reducible refine lkb (by kernel_rfl) ?_ | simp only [List.reverse_cons, List.reverse_nil, List.nil_append, List.cons_append]))) rfl (by kernel_rfl) (by kernel_rfl) ?_
          refine Arg.cons ?_
          refine Ev.loc (by (repeat (first | assumption | with_reducible exact lk0 | with_reducible refine lkb (by kernel_rfl) ?_ | simp only [List.reverse_cons, List.reverse_nil, List.nil_append, List.cons_append]))) rfl (by kernel_rfl) (by kernel_rfl) ?_
          refine Arg.cons ?_
          refine Ev.loc (by (repeat (first | assumption | with_reducible exact lk0 | with_reducible refine lkb (by kernel_rfl) ?_ | simp only [List.reverse_cons, List.reverse_nil, List.nil_append, List.cons_append]))) rfl (by kernel_rfl) (by kernel_rfl) ?_
          refine Arg.nil ?_
          refine ⟨by simp, LL (T0 i ++ T1 (0 + (i : Int)) j ++ T2 (0 + (i : Int)) (0 + (i : Int) + 1 + (j : Int)) k), by simp, ?_, (("c" : Str), V.int (0 + (i : Int) + 1 + (j : Int) + 1 + (k : Int))) :: loc, ?_, lk ha, lk hb⟩
          · have h1 := T0_len i
            have h2 := T1_len (a := 0 + (i : Int)) (by omega) j
            have h3 := T2_len (0 + (i : Int)) (0 + (i : Int) + 1 + (j : Int)) k
            simp only [LL, List.length_map, List.length_append]; omega
          · simp [T2, List.range_succ, LL]
        · rintro st' ⟨loc, rfl, ha, hb⟩
          refine ⟨loc, ?_, ha⟩
          simp [T1, List.range_succ, intsV]
      · rintro st' ⟨loc, rfl, ha⟩
        refine ⟨loc, ?_⟩
        simp [T0, List.range_succ, intsV]
    · rintro st' ⟨loc, rfl⟩
      refine ⟨LL (T0 5), rfl, ?_, ?_⟩
      · exact Fzs.map _ (fun xs => .list (Fzs.map _ (fun i => .int i) xs)) _
      · rw [T0_5]; exact h

end

section
open PySem PySem.Calls PyProof.Rows PySem.W

theorem srt {ns : List Int} (h : ns.Pairwise (· ≤ ·)) {j m : Nat} {x y : Int} (hj : ns[j]? = some x) (hm : ns[m]? = some y) (hle : j ≤ m) : x ≤ y := by
  obtain ⟨h1, rfl⟩ := List.getElem?_eq_some_iff.mp hj
  obtain ⟨h2, rfl⟩ := List.getElem?_eq_some_iff.mp hm
  rcases Nat.lt_or_eq_of_le hle with q | q
  · exact List.pairwise_iff_getElem.mp h j m h1 h2 q
  · subst q; exact Int.le_refl _
set_option maxHeartbeats 1000000 in
theorem bisect_left {Γ : Gam} {n env st} {Q : V → St → Prop} (G : Grd Γ (K0 Γ)) {v : V} {i : Int} {ns : List Int} (hl : st.lst v (ns.map .int)) (hlen : ns.length ≤ 1000) (hsort : ns.Pairwise (· ≤ ·)) {vs : List V} (hvs : vs = [v, .int i] ∨ vs = [v, .int i, .int 0, .none])
    (h : ∀ r : Nat, r ≤ ns.length → (∀ j x, j < r → ns[j]? = some x → x < i) → (∀ j x, r ≤ j → ns[j]? = some x → i ≤ x) → Q (.int r) st) : Cal Γ (n + 2) env st (.val (.ref 74)) vs Q := by
  refine Cal.fn (bv := [("a", v), ("x", .int i), ("lo", .int 0), ("hi", .none), ("key", .none)]) (G.def (a := 74) rfl rfl) rfl ?_ ?_ ?_ ?_
  · intro s as ρ φ hi hv
    rcases hvs with rfl | rfl
    · cases hv with | cons h1 h2 => cases h2 with | cons h2 h3 =>
        cases h3
        exact ⟨_, kp_binds (G.In hi) (fun S => rfl), .cons h1 (.cons h2 (.cons (.int _ _) (.cons .none (.cons .none .nil))))⟩
    · cases hv with | cons h1 h2 => cases h2 with | cons h2 h3 => cases h3 with | cons h3 h4 => cases h4 with | cons h4 h5 =>
        cases h5
        exact ⟨_, kp_binds (G.In hi) (fun S => rfl), .cons h1 (.cons h2 (.cons h3 (.cons h4 (.cons .none .nil))))⟩
  · kernel_rfl
  · kernel_rfl
  · intro L
    refine Exs.cons ?_
    refine Ex.iff ?_
    refine Tst.cmp (by kernel_rfl) ?_
    refine Ev.loc (by (repeat (first | assumption | with_reducible exact lk0 | with_reducible refine lkb (by kernel_rfl) ?_ | simp only [List.reverse_cons, List.reverse_nil, List.nil_append, List.cons_append]))) rfl (by kernel_rfl) (by kernel_rfl) ?_
    refine Ev.int ?_
    with_reducible refine Op2.ltI ?_
    refine ⟨_, rfl, ?_⟩
    rw [if_neg (by decide)]
    refine Exs.nil ?_
    refine Exs.cons ?_
    refine Ex.iff ?_
    refine Tst.cmp (by kernel_rfl) ?_
    refine Ev.loc (by (repeat (first | assumption | with_reducible exact lk0 | with_reducible refine lkb (by kernel_rfl) ?_ | simp only [List.reverse_cons, List.reverse_nil, List.nil_append, List.cons_append]))) rfl (by kernel_rfl) (by kernel_rfl) ?_
    refine Ev.none ?_
    with_reducible refine Op2.isNN ?_
    refine ⟨_, rfl, ?_⟩
    rw [if_pos rfl]
    refine Exs.cons ?_
    refine Ex.assign (by rfl) ?_
    refine Ev.call ?_
    refine Ev.bui (G.gb rfl boot_len (by decide)) rfl rfl rfl (by kernel_rfl) (by kernel_rfl) ?_
    refine ⟨_, rfl, KP.builtin, ?_⟩
    refine Arg.cons ?_
    refine Ev.loc (by (repeat (first | assumption | with_reducible exact lk0 | with_reducible refine lkb (by kernel_rfl) ?_ | simp only [List.reverse_cons, List.reverse_nil, List.nil_append, List.cons_append]))) rfl (by kernel_rfl) (by kernel_rfl) ?_
    refine Arg.nil ?_
    refine Cal.lenL hl (by simpa using hlen) ?_
    rw [List.length_map]
    refine Sto.loc (by kernel_rfl) (by kernel_rfl) ?_
    refine Exs.nil ?_
    refine Exs.cons ?_
    refine Ex.iff ?_
    refine Tst.cmp (by kernel_rfl) ?_
    refine Ev.loc (by (repeat (first | assumption | with_reducible exact lk0 | with_reducible refine lkb (by kernel_rfl) ?_ | simp only [List.reverse_cons, List.reverse_nil, List.nil_append, List.cons_append]))) rfl (by kernel_rfl) (by kernel_rfl) ?_
    refine Ev.none ?_
    with_reducible refine Op2.isNN ?_
    refine ⟨_, rfl, ?_⟩
    rw [if_pos rfl]
    refine Exs.cons ?_
    refine Ex.while (I := fun k st' => ∃ loc, ∃ lo hi : Nat, st' = { loc := loc, cl := [], heap := st.heap, pin := st.pin } ∧ loc.lookup ("a" : Str) = some v ∧ loc.lookup ("x" : Str) = some (.int i) ∧ loc.lookup ("lo" : Str) = some (.int lo) ∧ loc.lookup ("hi" : Str) = some (.int hi) ∧ lo ≤ hi ∧ hi ≤ ns.length ∧ k = hi - lo ∧
      (∀ j x, j < lo → ns[j]? = some x → x < i) ∧ (∀ j x, hi ≤ j → ns[j]? = some x → i ≤ x)) ns.length ⟨_, 0, ns.length, rfl, ?_, ?_, ?_, ?_, Nat.zero_le _, Nat.le_refl _, rfl, fun j x h => absurd h (Nat.not_lt_zero _), fun j x h e => ?_⟩ ?_
    · (repeat (first | assumption | with_reducible exact lk0 | with_reducible refine lkb (by kernel_rfl) ?_ | simp only [List.reverse_cons, List.reverse_nil, List.nil_append, List.cons_append]))
    · (repeat (first | assumption | with_reducible exact lk0 | with_reducible refine lkb (by kernel_rfl) ?_ | simp only [List.reverse_cons, List.reverse_nil, List.nil_append, List.cons_append]))
    · rfl
    · (repeat (first | assumption | with_reducible exact lk0 | with_reducible refine lkb (by kernel_rfl) ?_ | simp only [List.reverse_cons, List.reverse_nil, List.nil_append, List.cons_append]))
    · rw [List.getElem?_eq_none h] at e; cases e
    · rintro k st' ⟨loc, lo, hi, rfl, ha, hx, hlo, hhi, h1, h2, rfl, hL, hR⟩
      refine Tst.cmp (by kernel_rfl) ?_
      refine Ev.loc (by (repeat (first | assumption | with_reducible exact lk0 | with_reducible refine lkb (by kernel_rfl) ?_ | simp only [List.reverse_cons, List.reverse_nil, List.nil_append, List.cons_append]))) rfl (by kernel_rfl) (by kernel_rfl) ?_
      refine Ev.loc (by (repeat (first | assumption | with_reducible exact lk0 | with_reducible refine lkb (by kernel_rfl) ?_ | simp only [List.reverse_cons, List.reverse_nil, List.nil_append, List.cons_append]))) rfl (by kernel_rfl) (by kernel_rfl) ?_
      with_reducible refine Op2.ltI ?_
      refine ⟨_, rfl, ?_⟩
      by_cases hlt : (lo : Int) < hi
      · rw [if_pos (decide_eq_true hlt)]
        refine Exs.cons ?_
        refine Ex.assign (by rfl) ?_
        refine Ev.binop ?_
        refine Ev.binop ?_
        refine Ev.loc (by (repeat (first | assumption | with_reducible exact lk0 | with_reducible refine lkb (by kernel_rfl) ?_ | simp only [List.reverse_cons, List.reverse_nil, List.nil_append, List.cons_append]))) rfl (by kernel_rfl) (by kernel_rfl) ?_
        refine Ev.loc (by (repeat (first | assumption | with_reducible exact lk0 | with_reducible refine lkb (by kernel_rfl) ?_ | simp only [List.reverse_cons, List.reverse_nil, List.nil_append, List.cons_append]))) rfl (by kernel_rfl) (by kernel_rfl) ?_
        with_reducible refine Op2.addI ?_
        refine Ev.int ?_
        refine Op2.fdivI (by decide) (by decide) ?_
        have hm : ((lo : Int) + (hi : Int)).fdiv 2 = (((lo + hi) / 2 : Nat) : Int) := by
          rw [Int.fdiv_eq_ediv_of_nonneg _ (by decide)]; omega
        rw [hm]
        generalize hmid : (lo + hi) / 2 = mid
        have hmlt : mid < ns.length := by omega
        refine Sto.loc (by kernel_rfl) (by kernel_rfl) ?_
        refine Exs.cons ?_
        refine Ex.iff ?_
        refine Tst.cmp (by kernel_rfl) ?_
        refine Ev.sub ?_
        refine Ev.loc (by (repeat (first | assumption | with_reducible exact lk0 | with_reducible refine lkb (by kernel_rfl) ?_ | simp only [List.reverse_cons, List.reverse_nil, List.nil_append, List.cons_append]))) rfl (by kernel_rfl) (by kernel_rfl) ?_
        refine Ev.loc (by (repeat (first | assumption | with_reducible exact lk0 | with_reducible refine lkb (by kernel_rfl) ?_ | simp only [List.reverse_cons, List.reverse_nil, List.nil_append, List.cons_append]))) rfl (by kernel_rfl) (by kernel_rfl) ?_
        refine Op2.itemL (fun _ _ => rfl) hl (Int.natCast_nonneg _) (x := .int ns[mid]) (by simp [hmlt]) (by omega) ?_
        refine Ev.loc (by (repeat (first | assumption | with_reducible exact lk0 | with_reducible refine lkb (by kernel_rfl) ?_ | simp only [List.reverse_cons, List.reverse_nil, List.nil_append, List.cons_append]))) rfl (by kernel_rfl) (by kernel_rfl) ?_
        with_reducible refine Op2.ltI ?_
        refine ⟨_, rfl, ?_⟩
        by_cases hx2 : ns[mid] < i
        · rw [if_pos (decide_eq_true hx2)]
          refine Exs.cons ?_
          refine Ex.assign (by rfl) ?_
          refine Ev.binop ?_
          refine Ev.loc (by (repeat (first | assumption | with_reducible exact lk0 | with_reducible refine lkb (by kernel_rfl) ?_ | simp only [List.reverse_cons, List.reverse_nil, List.nil_append, List.cons_append]))) rfl (by kernel_rfl) (by kernel_rfl) ?_
          refine Ev.int ?_
          with_reducible refine Op2.addI ?_
          refine Sto.loc (by kernel_rfl) (by kernel_rfl) ?_
          refine Exs.nil ?_
          refine Exs.nil ?_
          refine ⟨hi - (mid + 1), by omega, _, mid + 1, hi, rfl, lk (lk ha), lk (lk hx), by rfl, lk (lk hhi), by omega, h2, rfl, fun j x hj e => ?_, hR⟩
          have h3 : ns[mid]? = some ns[mid] := List.getElem?_eq_getElem hmlt
          have h4 := srt hsort e h3 (by omega)
          omega
        · rw [if_neg (by simpa using hx2)]
          refine Exs.cons ?_
          refine Ex.assign (by rfl) ?_
          refine Ev.loc (by (repeat (first | assumption | with_reducible exact lk0 | with_reducible refine lkb (by kernel_rfl) ?_ | simp only [List.reverse_cons, List.reverse_nil, List.nil_append, List.cons_append]))) rfl (by kernel_rfl) (by kernel_rfl) ?_
          refine Sto.loc (by kernel_rfl) (by kernel_rfl) ?_
          refine Exs.nil ?_
          refine Exs.nil ?_
          refine ⟨mid - lo, by omega, _, lo, mid, rfl, lk (lk ha), lk (lk hx), lk (lk hlo), by rfl, by omega, by omega, rfl, hL, fun j x hj e => ?_⟩
          have h3 : ns[mid]? = some ns[mid] := List.getElem?_eq_getElem hmlt
          have h4 := srt hsort h3 e hj
          omega
      · rw [if_neg (by simpa using hlt)]
        refine Exs.nil ?_
        refine Exs.cons ?_
        refine Ex.ret ?_
        refine Ev.loc (by (repeat (first | assumption | with_reducible exact lk0 | with_reducible refine lkb (by kernel_rfl) ?_ | simp only [List.reverse_cons, List.reverse_nil, List.nil_append, List.cons_append]))) rfl (by kernel_rfl) (by kernel_rfl) ?_
        exact h lo (by omega) hL (fun j x hj e => hR j x (by omega) e)

end

section
open PySem PySem.Calls PyProof.Rows PySem.W
set_option maxHeartbeats 1000000 in
theorem bisect_right {Γ : Gam} {n env st} {Q : V → St → Prop} (G : Grd Γ (K0 Γ)) {v : V} {i : Int} {ns : List Int} (hl : st.lst v (ns.map .int)) (hlen : ns.length ≤ 1000) (hsort : ns.Pairwise (· ≤ ·)) {vs : List V} (hvs : vs = [v, .int i] ∨ vs = [v, .int i, .int 0, .none])
    (h : ∀ r : Nat, r ≤ ns.length → (∀ j x, j < r → ns[j]? = some x → x ≤ i) → (∀ j x, r ≤ j → ns[j]? = some x → i < x) → Q (.int r) st) : Cal Γ (n + 2) env st (.val (.ref 56)) vs Q := by
  refine Cal.fn (bv := [("a", v), ("x", .int i), ("lo", .int 0), ("hi", .none), ("key", .none)]) (G.def (a := 56) rfl rfl) rfl ?_ ?_ ?_ ?_
  · intro s as ρ φ hi hv
    rcases hvs with rfl | rfl
    · cases hv with | cons h1 h2 => cases h2 with | cons h2 h3 =>
        cases h3
        exact ⟨_, kp_binds (G.In hi) (fun S => rfl), .cons h1 (.cons h2 (.cons (.int _ _) (.cons .none (.cons .none .nil))))⟩
    · cases hv with | cons h1 h2 => cases h2 with | cons h2 h3 => cases h3 with | cons h3 h4 => cases h4 with | cons h4 h5 =>
        cases h5
        exact ⟨_, kp_binds (G.In hi) (fun S => rfl), .cons h1 (.cons h2 (.cons h3 (.cons h4 (.cons .none .nil))))⟩
  · kernel_rfl
  · kernel_rfl
  · intro L
    refine Exs.cons ?_
    refine Ex.iff ?_
    refine Tst.cmp (by kernel_rfl) ?_
    refine Ev.loc (by (repeat (first | assumption | with_reducible exact lk0 | with_reducible refine lkb (by kernel_rfl) ?_ | simp only [List.reverse_cons, List.reverse_nil, List.nil_append, List.cons_append]))) rfl (by kernel_rfl) (by kernel_rfl) ?_
    refine Ev.int ?_
    with_reducible refine Op2.ltI ?_
    refine ⟨_, rfl, ?_⟩
    rw [if_neg (by decide)]
    refine Exs.nil ?_
    refine Exs.cons ?_
    refine Ex.iff ?_
    refine Tst.cmp (by kernel_rfl) ?_
    refine Ev.loc (by (repeat (first | assumption | with_reducible exact lk0 | with_reducible refine lkb (by kernel_rfl) ?_ | simp only [List.reverse_cons, List.reverse_nil, List.nil_append, List.cons_append]))) rfl (by kernel_rfl) (by kernel_rfl) ?_
    refine Ev.none ?_
    with_reducible refine Op2.isNN ?_
    refine ⟨_, rfl, ?_⟩
    rw [if_pos rfl]
    refine Exs.cons ?_
    refine Ex.assign (by rfl) ?_
    refine Ev.call ?_
    refine Ev.bui (G.gb rfl boot_len (by decide)) rfl rfl rfl (by kernel_rfl) (by kernel_rfl) ?_
    refine ⟨_, rfl, KP.builtin, ?_⟩
    refine Arg.cons ?_
    refine Ev.loc (by (repeat (first | assumption | with_reducible exact lk0 | with_reducible refine lkb (by kernel_rfl) ?_ | simp only [List.reverse_cons, List.reverse_nil, List.nil_append, List.cons_append]))) rfl (by kernel_rfl) (by kernel_rfl) ?_
    refine Arg.nil ?_
    refine Cal.lenL hl (by simpa using hlen) ?_
    rw [List.length_map]
    refine Sto.loc (by kernel_rfl) (by kernel_rfl) ?_
    refine Exs.nil ?_
    refine Exs.cons ?_
    refine Ex.iff ?_
    refine Tst.cmp (by kernel_rfl) ?_
    refine Ev.loc (by (repeat (first | assumption | with_reducible exact lk0 | with_reducible refine lkb (by kernel_rfl) ?_ | simp only [List.reverse_cons, List.reverse_nil, List.nil_append, List.cons_append]))) rfl (by kernel_rfl) (by kernel_rfl) ?_
    refine Ev.none ?_
    with_reducible refine Op2.isNN ?_
    refine ⟨_, rfl, ?_⟩
    rw [if_pos rfl]
    refine Exs.cons ?_
    refine Ex.while (I := fun k st' => ∃ loc, ∃ lo hi : Nat, st' = { loc := loc, cl := [], heap := st.heap, pin := st.pin } ∧ loc.lookup ("a" : Str) = some v ∧ loc.lookup ("x" : Str) = some (.int i) ∧ loc.lookup ("lo" : Str) = some (.int lo) ∧ loc.lookup ("hi" : Str) = some (.int hi) ∧ lo ≤ hi ∧ hi ≤ ns.length ∧ k = hi - lo ∧
      (∀ j x, j < lo → ns[j]? = some x → x ≤ i) ∧ (∀ j x, hi ≤ j → ns[j]? = some x → i < x)) ns.length ⟨_, 0, ns.length, rfl, ?_, ?_, ?_, ?_, Nat.zero_le _, Nat.le_refl _, rfl, fun j x h => absurd h (Nat.not_lt_zero _), fun j x h e => ?_⟩ ?_
    · (repeat (first | assumption | with_reducible exact lk0 | with_reducible refine lkb (by kernel_rfl) ?_ | simp only [List.reverse_cons, List.reverse_nil, List.nil_append, List.cons_append]))
    · (repeat (first | assumption | with_reducible exact lk0 | with_reducible refine lkb (by kernel_rfl) ?_ | simp only [List.reverse_cons, List.reverse_nil, List.nil_append, List.cons_append]))
    · rfl
    · (repeat (first | assumption | with_reducible exact lk0 | with_reducible refine lkb (by kernel_rfl) ?_ | simp only [List.reverse_cons, List.reverse_nil, List.nil_append, List.cons_append]))
    · rw [List.getElem?_eq_none h] at e; cases e
    · rintro k st' ⟨loc, lo, hi, rfl, ha, hx, hlo, hhi, h1, h2, rfl, hL, hR⟩
      refine Tst.cmp (by kernel_rfl) ?_
      refine Ev.loc (by (repeat (first | assumption | with_reducible exact lk0 | with_reducible refine lkb (by kernel_rfl) ?_ | simp only [List.reverse_cons, List.reverse_nil, List.nil_append, List.cons_append]))) rfl (by kernel_rfl) (by kernel_rfl) ?_
      refine Ev.loc (by (repeat (first | assumption | with_reducible exact lk0 | with_reducible refine lkb (by kernel_rfl) ?_ | simp only [List.reverse_cons, List.reverse_nil, List.nil_append, List.cons_append]))) rfl (by kernel_rfl) (by kernel_rfl) ?_
      with_reducible refine Op2.ltI ?_
      refine ⟨_, rfl, ?_⟩
      by_cases hlt : (lo : Int) < hi
      · rw [if_pos (decide_eq_true hlt)]
        refine Exs.cons ?_
        refine Ex.assign (by rfl) ?_
        refine Ev.binop ?_
        refine Ev.binop ?_
        refine Ev.loc (by (repeat (first | assumption | with_reducible exact lk0 | with_reducible refine lkb (by kernel_rfl) ?_ | simp only [List.reverse_cons, List.reverse_nil, List.nil_append, List.cons_append]))) rfl (by kernel_rfl) (by kernel_rfl) ?_
        refine Ev.loc (by (repeat (first | assumption | with_reducible exact lk0 | with_reducible refine lkb (by kernel_rfl) ?_ | simp only [List.reverse_cons, List.reverse_nil, List.nil_append, List.cons_append]))) rfl (by kernel_rfl) (by kernel_rfl) ?_
        with_reducible refine Op2.addI ?_
        refine Ev.int ?_
        refine Op2.fdivI (by decide) (by decide) ?_
        have hm : ((lo : Int) + (hi : Int)).fdiv 2 = (((lo + hi) / 2 : Nat) : Int) := by
          rw [Int.fdiv_eq_ediv_of_nonneg _ (by decide)]; omega
        rw [hm]
        generalize hmid : (lo + hi) / 2 = mid
        have hmlt : mid < ns.length := by omega
        refine Sto.loc (by kernel_rfl) (by kernel_rfl) ?_
        refine Exs.cons ?_
        refine Ex.iff ?_
        refine Tst.cmp (by kernel_rfl) ?_
        refine Ev.loc (by (repeat (first | assumption | with_reducible exact lk0 | with_reducible refine lkb (by kernel_rfl) ?_ | simp only [List.reverse_cons, List.reverse_nil, List.nil_append, List.cons_append]))) rfl (by kernel_rfl) (by kernel_rfl) ?_
        refine Ev.sub ?_
        refine Ev.loc (by (repeat (first | assumption | with_reducible exact lk0 | with_reducible refine lkb (by kernel_rfl) ?_ | simp only [List.reverse_cons, List.reverse_nil, List.nil_append, List.cons_append]))) rfl (by kernel_rfl) (by kernel_rfl) ?_
        refine Ev.loc (by (repeat (first | assumption | with_reducible exact lk0 | with_reducible refine lkb (by kernel_rfl) ?_ | simp only [List.reverse_cons, List.reverse_nil, List.nil_append, List.cons_append]))) rfl (by kernel_rfl) (by kernel_rfl) ?_
        refine Op2.itemL (fun _ _ => rfl) hl (Int.natCast_nonneg _) (x := .int ns[mid]) (by simp [hmlt]) (by omega) ?_
        with_reducible refine Op2.ltI ?_
        refine ⟨_, rfl, ?_⟩
        by_cases hx2 : i < ns[mid]
        · rw [if_pos (decide_eq_true hx2)]
          refine Exs.cons ?_
          refine Ex.assign (by rfl) ?_
          refine Ev.loc (by (repeat (first | assumption | with_reducible exact lk0 | with_reducible refine lkb (by kernel_rfl) ?_ | simp only [List.reverse_cons, List.reverse_nil, List.nil_append, List.cons_append]))) rfl (by kernel_rfl) (by kernel_rfl) ?_
          refine Sto.loc (by kernel_rfl) (by kernel_rfl) ?_
          refine Exs.nil ?_
          refine Exs.nil ?_
          refine ⟨mid - lo, by omega, _, lo, mid, rfl, lk (lk ha), lk (lk hx), lk (lk hlo), by rfl, by omega, by omega, rfl, hL, fun j x hj e => ?_⟩
          have h3 : ns[mid]? = some ns[mid] := List.getElem?_eq_getElem hmlt
          have h4 := srt hsort h3 e hj
          omega
        · rw [if_neg (by simpa using hx2)]
          refine Exs.cons ?_
          refine Ex.assign (by rfl) ?_
          refine Ev.binop ?_
          refine Ev.loc (by (repeat (first | assumption | with_reducible exact lk0 | with_reducible refine lkb (by kernel_rfl) ?_ | simp only [List.reverse_cons, List.reverse_nil, List.nil_append, List.cons_append]))) rfl (by kernel_rfl) (by kernel_rfl) ?_
          refine Ev.int ?_
          with_reducible refine Op2.addI ?_
          refine Sto.loc (by kernel_rfl) (by kernel_rfl) ?_
          refine Exs.nil ?_
          refine Exs.nil ?_
          refine ⟨hi - (mid + 1), by omega, _, mid + 1, hi, rfl, lk (lk ha), lk (lk hx), by rfl, lk (lk hhi), by omega, h2, rfl, fun j x hj e => ?_, hR⟩
          have h3 : ns[mid]? = some ns[mid] := List.getElem?_eq_getElem hmlt
          have h4 := srt hsort e h3 (by omega)
          omega
      · rw [if_neg (by simpa using hlt)]
        refine Exs.nil ?_
        refine Exs.cons ?_
        refine Ex.ret ?_
        refine Ev.loc (by (repeat (first | assumption | with_reducible exact lk0 | with_reducible refine lkb (by kernel_rfl) ?_ | simp only [List.reverse_cons, List.reverse_nil, List.nil_append, List.cons_append]))) rfl (by kernel_rfl) (by kernel_rfl) ?_
        exact h lo (by omega) hL (fun j x hj e => hR j x (by omega) e)

end

section
open PySem PySem.Calls PyProof.Rows PySem.W
set_option maxHeartbeats 1000000 in
theorem insort_left {Γ : Gam} {n env st} {Q : V → St → Prop} (G : Grd Γ (K0 Γ)) {k : Nat} {i : Int} {ns : List Int} (ho : st.heap[k]? = some (.list (ns.map .int))) (hlen : ns.length ≤ 1000) (hsort : ns.Pairwise (· ≤ ·))
    (h : ∀ r : Nat, r ≤ ns.length → (∀ j x, j < r → ns[j]? = some x → x < i) → (∀ j x, r ≤ j → ns[j]? = some x → i ≤ x) → Q .none (st.upd k (.list ((ns.take r ++ i :: ns.drop r).map .int)))) : Cal Γ (n + 3) env st (.val (.ref 65)) [.obj k, .int i] Q := by
  refine Cal.fn (bv := [("a", .obj k), ("x", .int i), ("lo", .int 0), ("hi", .none), ("key", .none)]) (G.def (a := 65) rfl rfl) rfl ?_ ?_ ?_ ?_
  · intro s as ρ φ hi hv
    cases hv with | cons h1 h2 => cases h2 with | cons h2 h3 =>
      cases h3
      exact ⟨_, kp_binds (G.In hi) (fun S => rfl), .cons h1 (.cons h2 (.cons (.int _ _) (.cons .none (.cons .none .nil))))⟩
  · kernel_rfl
  · kernel_rfl
  · intro L
    refine Exs.cons ?_
    refine Ex.iff ?_
    refine Tst.cmp (by kernel_rfl) ?_
    refine Ev.loc (by (repeat (first | assumption | with_reducible exact lk0 | with_reducible refine lkb (by kernel_rfl) ?_ | simp only [List.reverse_cons, List.reverse_nil, List.nil_append, List.cons_append]))) rfl (by kernel_rfl) (by kernel_rfl) ?_
    refine Ev.none ?_
    with_reducible refine Op2.isNN ?_
    refine ⟨_, rfl, ?_⟩
    rw [if_pos rfl]
    refine Exs.cons ?_
    refine Ex.assign (by rfl) ?_
    refine Ev.call ?_
    refine Ev.glo (G.gv rfl) (fun _ _ _ => .val _) rfl rfl (by kernel_rfl) (by kernel_rfl) ?_
    refine ⟨_, rfl, (KP.fn (G.K _ _ rfl) rfl), ?_⟩
    refine Arg.cons ?_
    refine Ev.loc (by (repeat (first | assumption | with_reducible exact lk0 | with_reducible refine lkb (by kernel_rfl) ?_ | simp only [List.reverse_cons, List.reverse_nil, List.nil_append, List.cons_append]))) rfl (by kernel_rfl) (by kernel_rfl) ?_
    refine Arg.cons ?_
    refine Ev.loc (by (repeat (first | assumption | with_reducible exact lk0 | with_reducible refine lkb (by kernel_rfl) ?_ | simp only [List.reverse_cons, List.reverse_nil, List.nil_append, List.cons_append]))) rfl (by kernel_rfl) (by kernel_rfl) ?_
    refine Arg.cons ?_
    refine Ev.loc (by (repeat (first | assumption | with_reducible exact lk0 | with_reducible refine lkb (by kernel_rfl) ?_ | simp only [List.reverse_cons, List.reverse_nil, List.nil_append, List.cons_append]))) rfl (by kernel_rfl) (by kernel_rfl) ?_
    refine Arg.cons ?_
    refine Ev.loc (by (repeat (first | assumption | with_reducible exact lk0 | with_reducible refine lkb (by kernel_rfl) ?_ | simp only [List.reverse_cons, List.reverse_nil, List.nil_append, List.cons_append]))) rfl (by kernel_rfl) (by kernel_rfl) ?_
    refine Arg.nil ?_
    refine bisect_left G (v := .obj k) (ns := ns) ?_ hlen hsort (.inr rfl) fun r hr h1 h2 => ?_
    · exact .inr ⟨k, rfl, ho⟩
    refine Sto.loc (by kernel_rfl) (by kernel_rfl) ?_
    refine Exs.nil ?_
    refine Exs.cons ?_
    refine Ex.expr (by rfl) (by rfl) ?_
    refine Ev.mth F.plainAttrs_list F.slot_list_insert F.type_list_insert rfl (by kernel_rfl) (by kernel_rfl) ?_
    refine Ev.loc (by (repeat (first | assumption | with_reducible exact lk0 | with_reducible refine lkb (by kernel_rfl) ?_ | simp only [List.reverse_cons, List.reverse_nil, List.nil_append, List.cons_append]))) rfl (by kernel_rfl) (by kernel_rfl) ?_
    refine ⟨TyIs.obj (vs := ns.map .int) ho, ?_⟩
    refine Arg.cons ?_
    refine Ev.loc (by (repeat (first | assumption | with_reducible exact lk0 | with_reducible refine lkb (by kernel_rfl) ?_ | simp only [List.reverse_cons, List.reverse_nil, List.nil_append, List.cons_append]))) rfl (by kernel_rfl) (by kernel_rfl) ?_
    refine Arg.cons ?_
    refine Ev.loc (by (repeat (first | assumption | with_reducible exact lk0 | with_reducible refine lkb (by kernel_rfl) ?_ | simp only [List.reverse_cons, List.reverse_nil, List.nil_append, List.cons_append]))) rfl (by kernel_rfl) (by kernel_rfl) ?_
    refine Arg.nil ?_
    refine Cal.insert (vs := ns.map .int) ho (Int.natCast_nonneg _) (by simpa using hr) (by simpa using hlen) ?_
    refine Exs.nil ?_
    have := h r hr h1 h2
    simpa [List.map_take, List.map_drop, RetQ] using this
set_option maxHeartbeats 1000000 in
theorem insort_right {Γ : Gam} {n env st} {Q : V → St → Prop} (G : Grd Γ (K0 Γ)) {k : Nat} {i : Int} {ns : List Int} (ho : st.heap[k]? = some (.list (ns.map .int))) (hlen : ns.length ≤ 1000) (hsort : ns.Pairwise (· ≤ ·))
    (h : ∀ r : Nat, r ≤ ns.length → (∀ j x, j < r → ns[j]? = some x → x ≤ i) → (∀ j x, r ≤ j → ns[j]? = some x → i < x) → Q .none (st.upd k (.list ((ns.take r ++ i :: ns.drop r).map .int)))) : Cal Γ (n + 3) env st (.val (.ref 47)) [.obj k, .int i] Q := by
  refine Cal.fn (bv := [("a", .obj k), ("x", .int i), ("lo", .int 0), ("hi", .none), ("key", .none)]) (G.def (a := 47) rfl rfl) rfl ?_ ?_ ?_ ?_
  · intro s as ρ φ hi hv
    cases hv with | cons h1 h2 => cases h2 with | cons h2 h3 =>
      cases h3
      exact ⟨_, kp_binds (G.In hi) (fun S => rfl), .cons h1 (.cons h2 (.cons (.int _ _) (.cons .none (.cons .none .nil))))⟩
  · kernel_rfl
  · kernel_rfl
  · intro L
    refine Exs.cons ?_
    refine Ex.iff ?_
    refine Tst.cmp (by kernel_rfl) ?_
    refine Ev.loc (by (repeat (first | assumption | with_reducible exact lk0 | with_reducible refine lkb (by kernel_rfl) ?_ | simp only [List.reverse_cons, List.reverse_nil, List.nil_append, List.cons_append]))) rfl (by kernel_rfl) (by kernel_rfl) ?_
    refine Ev.none ?_
    with_reducible refine Op2.isNN ?_
    refine ⟨_, rfl, ?_⟩
    rw [if_pos rfl]
    refine Exs.cons ?_
    refine Ex.assign (by rfl) ?_
    refine Ev.call ?_
    refine Ev.glo (G.gv rfl) (fun _ _ _ => .val _) rfl rfl (by kernel_rfl) (by kernel_rfl) ?_
    refine ⟨_, rfl, (KP.fn (G.K _ _ rfl) rfl), ?_⟩
    refine Arg.cons ?_
    refine Ev.loc (by (repeat (first | assumption | with_reducible exact lk0 | with_reducible refine lkb (by kernel_rfl) ?_ | simp only [List.reverse_cons, List.reverse_nil, List.nil_append, List.cons_append]))) rfl (by kernel_rfl) (by kernel_rfl) ?_
    refine Arg.cons ?_
    refine Ev.loc (by (repeat (first | assumption | with_reducible exact lk0 | with_reducible refine lkb (by kernel_rfl) ?_ | simp only [List.reverse_cons, List.reverse_nil, List.nil_append, List.cons_append]))) rfl (by kernel_rfl) (by kernel_rfl) ?_
    refine Arg.cons ?_
    refine Ev.loc (by (repeat (first | assumption | with_reducible exact lk0 | with_reducible refine lkb (by kernel_rfl) ?_ | simp only [List.reverse_cons, List.reverse_nil, List.nil_append, List.cons_append]))) rfl (by kernel_rfl) (by kernel_rfl) ?_
    refine Arg.cons ?_
    refine Ev.loc (by (repeat (first | assumption | with_reducible exact lk0 | with_reducible refine lkb (by kernel_rfl) ?_ | simp only [List.reverse_cons, List.reverse_nil, List.nil_append, List.cons_append]))) rfl (by kernel_rfl) (by kernel_rfl) ?_
    refine Arg.nil ?_
    refine bisect_right G (v := .obj k) (ns := ns) ?_ hlen hsort (.inr rfl) fun r hr h1 h2 => ?_
    · exact .inr ⟨k, rfl, ho⟩
    refine Sto.loc (by kernel_rfl) (by kernel_rfl) ?_
    refine Exs.nil ?_
    refine Exs.cons ?_
    refine Ex.expr (by rfl) (by rfl) ?_
    refine Ev.mth F.plainAttrs_list F.slot_list_insert F.type_list_insert rfl (by kernel_rfl) (by kernel_rfl) ?_
    refine Ev.loc (by (repeat (first | assumption | with_reducible exact lk0 | with_reducible refine lkb (by kernel_rfl) ?_ | simp only [List.reverse_cons, List.reverse_nil, List.nil_append, List.cons_append]))) rfl (by kernel_rfl) (by kernel_rfl) ?_
    refine ⟨TyIs.obj (vs := ns.map .int) ho, ?_⟩
    refine Arg.cons ?_
    refine Ev.loc (by (repeat (first | assumption | with_reducible exact lk0 | with_reducible refine lkb (by kernel_rfl) ?_ | simp only [List.reverse_cons, List.reverse_nil, List.nil_append, List.cons_append]))) rfl (by kernel_rfl) (by kernel_rfl) ?_
    refine Arg.cons ?_
    refine Ev.loc (by (repeat (first | assumption | with_reducible exact lk0 | with_reducible refine lkb (by kernel_rfl) ?_ | simp only [List.reverse_cons, List.reverse_nil, List.nil_append, List.cons_append]))) rfl (by kernel_rfl) (by kernel_rfl) ?_
    refine Arg.nil ?_
    refine Cal.insert (vs := ns.map .int) ho (Int.natCast_nonneg _) (by simpa using hr) (by simpa using hlen) ?_
    refine Exs.nil ?_
    have := h r hr h1 h2
    simpa [List.map_take, List.map_drop, RetQ] using this

end

section
open PySem PySem.Calls PyProof.Rows PySem.W
noncomputable def mxF (r g b : UInt64) := best3 .gt r g b
noncomputable def mnF (r g b : UInt64) := best3 .lt r g b
noncomputable def raF (r g b : UInt64) := Float64.sub (mxF r g b) (mnF r g b)
noncomputable def hueF (r g b : UInt64) : UInt64 :=
  let rc := Float64.div (Float64.sub (mxF r g b) r) (raF r g b)
  let gc := Float64.div (Float64.sub (mxF r g b) g) (raF r g b)
  let bc := Float64.div (Float64.sub (mxF r g b) b) (raF r g b)
  let h := if Float64.cmp r (mxF r g b) == some .eq then Float64.sub bc gc else if Float64.cmp g (mxF r g b) == some .eq then Float64.sub (Float64.add 4611686018427387904 rc) bc else Float64.sub (Float64.add 4616189618054758400 gc) rc
  (Float64.divmod (Float64.div h 4618441417868443648) 4607182418800017408).2
theorem iseof {Γ : Gam} {n env st Q} {i : Int} (G : Grd Γ (K0 Γ)) (h : Q (.bool (i == 0)) st) : Cal Γ (n + 1) env st (.val (.ref 105)) [.int i] Q := by
  refine Cal.fn (bv := [("x", .int i)]) (G.def (a := 105) rfl rfl) rfl ?_ ?_ ?_ ?_
  · intro s as ρ φ hi hv
    cases hv with | cons h1 h2 => cases h2; exact ⟨_, BindsTo.of_eq rfl, .cons h1 .nil⟩
  · kernel_rfl
  · kernel_rfl
  · intro L
    refine Exs.cons ?_
    refine Ex.ret ?_
    refine Ev.cmp (by kernel_rfl) ?_
    refine Ev.loc (by (repeat (first | assumption | with_reducible exact lk0 | with_reducible refine lkb (by kernel_rfl) ?_ | simp only [List.reverse_cons, List.reverse_nil, List.nil_append, List.cons_append]))) rfl (by kernel_rfl) (by kernel_rfl) ?_
    refine Ev.glo (v := .int _) (G.gv rfl) (fun _ _ _ => .int _ _) rfl rfl (by kernel_rfl) (by kernel_rfl) ?_
    with_reducible refine Op2.eqI ?_
    exact h
set_option maxHeartbeats 1000000 in
theorem rgb {Γ : Gam} {n env st Q} {r g b : UInt64} (G : Grd Γ (K0 Γ)) (h1 : (Float64.cmp (mnF r g b) (mxF r g b) == some .eq) = false) (h2 : Float64.isZero (mxF r g b) = false) (h3 : Float64.isZero (raF r g b) = false)
    (h : ∀ s v, Q (.tup [.flt (hueF r g b), .flt s, .flt v]) st) : Cal Γ (n + 1) env st (.val (.ref 38)) [.flt r, .flt g, .flt b] Q := by
  refine Cal.fn (bv := [("r", .flt r), ("g", .flt g), ("b", .flt b)]) (G.def (a := 38) rfl rfl) rfl ?_ ?_ ?_ ?_
  · intro s as ρ φ hi hv
    cases hv with | cons a1 h2 => cases h2 with | cons a2 h2 => cases h2 with | cons a3 h2 => cases h2; exact ⟨_, BindsTo.of_eq rfl, .cons a1 (.cons a2 (.cons a3 .nil))⟩
  · kernel_rfl
  · kernel_rfl
  · intro L
    refine Exs.cons ?_
    refine Ex.assign (by rfl) ?_
    refine Ev.call ?_
    refine Ev.bui (G.gb rfl (by first | with_reducible exact boot_range | with_reducible exact boot_len | boot_fact) (by decide)) rfl rfl rfl (by kernel_rfl) (by kernel_rfl) ?_
    refine ⟨_, rfl, KP.builtin, ?_⟩
    refine Arg.cons ?_
    refine Ev.loc (by (repeat (first | assumption | with_reducible exact lk0 | with_reducible refine lkb (by kernel_rfl) ?_ | simp only [List.reverse_cons, List.reverse_nil, List.nil_append, List.cons_append]))) rfl (by kernel_rfl) (by kernel_rfl) ?_
    refine Arg.cons ?_
    refine Ev.loc (by (repeat (first | assumption | with_reducible exact lk0 | with_reducible refine lkb (by kernel_rfl) ?_ | simp only [List.reverse_cons, List.reverse_nil, List.nil_append, List.cons_append]))) rfl (by kernel_rfl) (by kernel_rfl) ?_
    refine Arg.cons ?_
    refine Ev.loc (by (repeat (first | assumption | with_reducible exact lk0 | with_reducible refine lkb (by kernel_rfl) ?_ | simp only [List.reverse_cons, List.reverse_nil, List.nil_append, List.cons_append]))) rfl (by kernel_rfl) (by kernel_rfl) ?_
    refine Arg.nil ?_
    refine Cal.max3F ?_
    rw [show best3 .gt r g b = mxF r g b from rfl]
    refine Sto.loc (by kernel_rfl) (by kernel_rfl) ?_
    refine Exs.cons ?_
    refine Ex.assign (by rfl) ?_
    refine Ev.call ?_
    refine Ev.bui (G.gb rfl (by first | with_reducible exact boot_range | with_reducible exact boot_len | boot_fact) (by decide)) rfl rfl rfl (by kernel_rfl) (by kernel_rfl) ?_
    refine ⟨_, rfl, KP.builtin, ?_⟩
    refine Arg.cons ?_
    refine Ev.loc (by (repeat (first | assumption | with_reducible exact lk0 | with_reducible refine lkb (by kernel_rfl) ?_ | simp only [List.reverse_cons, List.reverse_nil, List.nil_append, List.cons_append]))) rfl (by kernel_rfl) (by kernel_rfl) ?_
    refine Arg.cons ?_
    refine Ev.loc (by (repeat (first | assumption | with_reducible exact lk0 | with_reducible refine lkb (by kernel_rfl) ?_ | simp only [List.reverse_cons, List.reverse_nil, List.nil_append, List.cons_append]))) rfl (by kernel_rfl) (by kernel_rfl) ?_
    refine Arg.cons ?_
    refine Ev.loc (by (repeat (first | assumption | with_reducible exact lk0 | with_reducible refine lkb (by kernel_rfl) ?_ | simp only [List.reverse_cons, List.reverse_nil, List.nil_append, List.cons_append]))) rfl (by kernel_rfl) (by kernel_rfl) ?_
    refine Arg.nil ?_
    refine Cal.min3F ?_
    rw [show best3 .lt r g b = mnF r g b from rfl]
    refine Sto.loc (by kernel_rfl) (by kernel_rfl) ?_
    refine Exs.cons ?_
    refine Ex.assign (by rfl) ?_
    refine Ev.binop ?_
    refine Ev.loc (by (repeat (first | assumption | with_reducible exact lk0 | with_reducible refine lkb (by kernel_rfl) ?_ | simp only [List.reverse_cons, List.reverse_nil, List.nil_append, List.cons_append]))) rfl (by kernel_rfl) (by kernel_rfl) ?_
    refine Ev.loc (by (repeat (first | assumption | with_reducible exact lk0 | with_reducible refine lkb (by kernel_rfl) ?_ | simp only [List.reverse_cons, List.reverse_nil, List.nil_append, List.cons_append]))) rfl (by kernel_rfl) (by kernel_rfl) ?_
    refine Op2.subF ?_
    rw [show Float64.sub (mxF r g b) (mnF r g b) = raF r g b from rfl]
    refine Sto.loc (by kernel_rfl) (by kernel_rfl) ?_
    refine Exs.cons ?_
    refine Ex.assign (by rfl) ?_
    refine Ev.loc (by (repeat (first | assumption | with_reducible exact lk0 | with_reducible refine lkb (by kernel_rfl) ?_ | simp only [List.reverse_cons, List.reverse_nil, List.nil_append, List.cons_append]))) rfl (by kernel_rfl) (by kernel_rfl) ?_
    refine Sto.loc (by kernel_rfl) (by kernel_rfl) ?_
    refine Exs.cons ?_
    refine Ex.iff ?_
    refine Tst.cmp (by kernel_rfl) ?_
    refine Ev.loc (by (repeat (first | assumption | with_reducible exact lk0 | with_reducible refine lkb (by kernel_rfl) ?_ | simp only [List.reverse_cons, List.reverse_nil, List.nil_append, List.cons_append]))) rfl (by kernel_rfl) (by kernel_rfl) ?_
    refine Ev.loc (by (repeat (first | assumption | with_reducible exact lk0 | with_reducible refine lkb (by kernel_rfl) ?_ | simp only [List.reverse_cons, List.reverse_nil, List.nil_append, List.cons_append]))) rfl (by kernel_rfl) (by kernel_rfl) ?_
    refine Op2.eqF ?_
    rw [h1]
    refine ⟨_, rfl, ?_⟩
    rw [if_neg (by decide)]
    refine Exs.nil ?_
    refine Exs.cons ?_
    refine Ex.assign (by rfl) ?_
    refine Ev.binop ?_
    refine Ev.loc (by (repeat (first | assumption | with_reducible exact lk0 | with_reducible refine lkb (by kernel_rfl) ?_ | simp only [List.reverse_cons, List.reverse_nil, List.nil_append, List.cons_append]))) rfl (by kernel_rfl) (by kernel_rfl) ?_
    refine Ev.loc (by (repeat (first | assumption | with_reducible exact lk0 | with_reducible refine lkb (by kernel_rfl) ?_ | simp only [List.reverse_cons, List.reverse_nil, List.nil_append, List.cons_append]))) rfl (by kernel_rfl) (by kernel_rfl) ?_
    refine Op2.divF h2 ?_
    refine Sto.loc (by kernel_rfl) (by kernel_rfl) ?_
    refine Exs.cons ?_
    refine Ex.assign (by rfl) ?_
    refine Ev.binop ?_
    refine Ev.binop ?_
    refine Ev.loc (by (repeat (first | assumption | with_reducible exact lk0 | with_reducible refine lkb (by kernel_rfl) ?_ | simp only [List.reverse_cons, List.reverse_nil, List.nil_append, List.cons_append]))) rfl (by kernel_rfl) (by kernel_rfl) ?_
    refine Ev.loc (by (repeat (first | assumption | with_reducible exact lk0 | with_reducible refine lkb (by kernel_rfl) ?_ | simp only [List.reverse_cons, List.reverse_nil, List.nil_append, List.cons_append]))) rfl (by kernel_rfl) (by kernel_rfl) ?_
    refine Op2.subF ?_
    refine Ev.loc (by (repeat (first | assumption | with_reducible exact lk0 | with_reducible refine lkb (by kernel_rfl) ?_ | simp only [List.reverse_cons, List.reverse_nil, List.nil_append, List.cons_append]))) rfl (by kernel_rfl) (by kernel_rfl) ?_
    refine Op2.divF h3 ?_
    refine Sto.loc (by kernel_rfl) (by kernel_rfl) ?_
    refine Exs.cons ?_
    refine Ex.assign (by rfl) ?_
    refine Ev.binop ?_
    refine Ev.binop ?_
    refine Ev.loc (by (repeat (first | assumption | with_reducible exact lk0 | with_reducible refine lkb (by kernel_rfl) ?_ | simp only [List.reverse_cons, List.reverse_nil, List.nil_append, List.cons_append]))) rfl (by kernel_rfl) (by kernel_rfl) ?_
    refine Ev.loc (by (repeat (first | assumption | with_reducible exact lk0 | with_reducible refine lkb (by kernel_rfl) ?_ | simp only [List.reverse_cons, List.reverse_nil, List.nil_append, List.cons_append]))) rfl (by kernel_rfl) (by kernel_rfl) ?_
    refine Op2.subF ?_
    refine Ev.loc (by (repeat (first | assumption | with_reducible exact lk0 | with_reducible refine lkb (by kernel_rfl) ?_ | simp only [List.reverse_cons, List.reverse_nil, List.nil_append, List.cons_append]))) rfl (by kernel_rfl) (by kernel_rfl) ?_
    refine Op2.divF h3 ?_
    refine Sto.loc (by kernel_rfl) (by kernel_rfl) ?_
    refine Exs.cons ?_
    refine Ex.assign (by rfl) ?_
    refine Ev.binop ?_
    refine Ev.binop ?_
    refine Ev.loc (by (repeat (first | assumption | with_reducible exact lk0 | with_reducible refine lkb (by kernel_rfl) ?_ | simp only [List.reverse_cons, List.reverse_nil, List.nil_append, List.cons_append]))) rfl (by kernel_rfl) (by kernel_rfl) ?_
    refine Ev.loc (by (repeat (first | assumption | with_reducible exact lk0 | with_reducible refine lkb (by kernel_rfl) ?_ | simp only [List.reverse_cons, List.reverse_nil, List.nil_append, List.cons_append]))) rfl (by kernel_rfl) (by kernel_rfl) ?_
    refine Op2.subF ?_
    refine Ev.loc (by (repeat (first | assumption | with_reducible exact lk0 | with_reducible refine lkb (by kernel_rfl) ?_ | simp only [List.reverse_cons, List.reverse_nil, List.nil_append, List.cons_append]))) rfl (by kernel_rfl) (by kernel_rfl) ?_
    refine Op2.divF h3 ?_
    refine Sto.loc (by kernel_rfl) (by kernel_rfl) ?_
    refine Exs.cons ?_
    refine Ex.iff ?_
    refine Tst.cmp (by kernel_rfl) ?_
    refine Ev.loc (by (repeat (first | assumption | with_reducible exact lk0 | with_reducible refine lkb (by kernel_rfl) ?_ | simp only [List.reverse_cons, List.reverse_nil, List.nil_append, List.cons_append]))) rfl (by kernel_rfl) (by kernel_rfl) ?_
    refine Ev.loc (by (repeat (first | assumption | with_reducible exact lk0 | with_reducible refine lkb (by kernel_rfl) ?_ | simp only [List.reverse_cons, List.reverse_nil, List.nil_append, List.cons_append]))) rfl (by kernel_rfl) (by kernel_rfl) ?_
    refine Op2.eqF ?_
    refine ⟨_, rfl, ?_⟩
    by_cases c1 : (Float64.cmp r (mxF r g b) == some .eq) = true
    · rw [if_pos c1]
      refine Exs.cons ?_
      refine Ex.assign (by rfl) ?_
      refine Ev.binop ?_
      refine Ev.loc (by (repeat (first | assumption | with_reducible exact lk0 | with_reducible refine lkb (by kernel_rfl) ?_ | simp only [List.reverse_cons, List.reverse_nil, List.nil_append, List.cons_append]))) rfl (by kernel_rfl) (by kernel_rfl) ?_
      refine Ev.loc (by (repeat (first | assumption | with_reducible exact lk0 | with_reducible refine lkb (by kernel_rfl) ?_ | simp only [List.reverse_cons, List.reverse_nil, List.nil_append, List.cons_append]))) rfl (by kernel_rfl) (by kernel_rfl) ?_
      refine Op2.subF ?_
      refine Sto.loc (by kernel_rfl) (by kernel_rfl) ?_
      refine Exs.nil ?_
      refine Exs.cons ?_
      refine Ex.assign (by rfl) ?_
      refine Ev.binop ?_
      refine Ev.binop ?_
      refine Ev.loc (by (repeat (first | assumption | with_reducible exact lk0 | with_reducible refine lkb (by kernel_rfl) ?_ | simp only [List.reverse_cons, List.reverse_nil, List.nil_append, List.cons_append]))) rfl (by kernel_rfl) (by kernel_rfl) ?_
      refine Ev.flt ?_
      refine Op2.divF (by kernel_rfl) ?_
      refine Ev.flt ?_
      refine Op2.modF (by kernel_rfl) ?_
      refine Sto.loc (by kernel_rfl) (by kernel_rfl) ?_
      refine Exs.cons ?_
      refine Ex.ret ?_
      refine Ev.tup ?_
      refine Arg.cons ?_
      refine Ev.loc (by (repeat (first | assumption | with_reducible exact lk0 | with_reducible refine lkb (by kernel_rfl) ?_ | simp only [List.reverse_cons, List.reverse_nil, List.nil_append, List.cons_append]))) rfl (by kernel_rfl) (by kernel_rfl) ?_
      refine Arg.cons ?_
      refine Ev.loc (by (repeat (first | assumption | with_reducible exact lk0 | with_reducible refine lkb (by kernel_rfl) ?_ | simp only [List.reverse_cons, List.reverse_nil, List.nil_append, List.cons_append]))) rfl (by kernel_rfl) (by kernel_rfl) ?_
      refine Arg.cons ?_
      refine Ev.loc (by (repeat (first | assumption | with_reducible exact lk0 | with_reducible refine lkb (by kernel_rfl) ?_ | simp only [List.reverse_cons, List.reverse_nil, List.nil_append, List.cons_append]))) rfl (by kernel_rfl) (by kernel_rfl) ?_
      refine Arg.nil ?_
      refine ⟨by simp, ?_⟩
      have h' := h (Float64.div (raF r g b) (mxF r g b)) (mxF r g b)
      simp only [hueF, if_pos c1] at h'
      exact h'
    · rw [if_neg c1]
      refine Exs.cons ?_
      refine Ex.iff ?_
      refine Tst.cmp (by kernel_rfl) ?_
      refine Ev.loc (by (repeat (first | assumption | with_reducible exact lk0 | with_reducible refine lkb (by kernel_rfl) ?_ | simp only [List.reverse_cons, List.reverse_nil, List.nil_append, List.cons_append]))) rfl (by kernel_rfl) (by kernel_rfl) ?_
      refine Ev.loc (by (repeat (first | assumption | with_reducible exact lk0 | with_reducible refine lkb (by kernel_rfl) ?_ | simp only [List.reverse_cons, List.reverse_nil, List.nil_append, List.cons_append]))) rfl (by kernel_rfl) (by kernel_rfl) ?_
      refine Op2.eqF ?_
      refine ⟨_, rfl, ?_⟩
      by_cases c2 : (Float64.cmp g (mxF r g b) == some .eq) = true
      · rw [if_pos c2]
        refine Exs.cons ?_
        refine Ex.assign (by rfl) ?_
        refine Ev.binop ?_
        refine Ev.binop ?_
        refine Ev.flt ?_
        refine Ev.loc (by (repeat (first | assumption | with_reducible exact lk0 | with_reducible refine lkb (by kernel_rfl) ?_ | simp only [List.reverse_cons, List.reverse_nil, List.nil_append, List.cons_append]))) rfl (by kernel_rfl) (by kernel_rfl) ?_
        refine Op2.addF ?_
        refine Ev.loc (by (repeat (first | assumption | with_reducible exact lk0 | with_reducible refine lkb (by kernel_rfl) ?_ | simp only [List.reverse_cons, List.reverse_nil, List.nil_append, List.cons_append]))) rfl (by kernel_rfl) (by kernel_rfl) ?_
        refine Op2.subF ?_
        refine Sto.loc (by kernel_rfl) (by kernel_rfl) ?_
        refine Exs.nil ?_
        refine Exs.nil ?_
        refine Exs.cons ?_
        refine Ex.assign (by rfl) ?_
        refine Ev.binop ?_
        refine Ev.binop ?_
        refine Ev.loc (by (repeat (first | assumption | with_reducible exact lk0 | with_reducible refine lkb (by kernel_rfl) ?_ | simp only [List.reverse_cons, List.reverse_nil, List.nil_append, List.cons_append]))) rfl (by kernel_rfl) (by kernel_rfl) ?_
        refine Ev.flt ?_
        refine Op2.divF (by kernel_rfl) ?_
        refine Ev.flt ?_
        refine Op2.modF (by kernel_rfl) ?_
        refine Sto.loc (by kernel_rfl) (by kernel_rfl) ?_
        refine Exs.cons ?_
        refine Ex.ret ?_
        refine Ev.tup ?_
        refine Arg.cons ?_
        refine Ev.loc (by (repeat (first | assumption | with_reducible exact lk0 | with_reducible refine lkb (by kernel_rfl) ?_ | simp only [List.reverse_cons, List.reverse_nil, List.nil_append, List.cons_append]))) rfl (by kernel_rfl) (by kernel_rfl) ?_
        refine Arg.cons ?_
        refine Ev.loc (by (repeat (first | assumption | with_reducible exact lk0 | with_reducible refine lkb (by kernel_rfl) ?_ | simp only [List.reverse_cons, List.reverse_nil, List.nil_append, List.cons_append]))) rfl (by kernel_rfl) (by kernel_rfl) ?_
        refine Arg.cons ?_
        refine Ev.loc (by (repeat (first | assumption | with_reducible exact lk0 | with_reducible refine lkb (by kernel_rfl) ?_ | simp only [List.reverse_cons, List.reverse_nil, List.nil_append, List.cons_append]))) rfl (by kernel_rfl) (by kernel_rfl) ?_
        refine Arg.nil ?_
        refine ⟨by simp, ?_⟩
        have h' := h (Float64.div (raF r g b) (mxF r g b)) (mxF r g b)
        simp only [hueF, if_neg c1, if_pos c2] at h'
        exact h'
      · rw [if_neg c2]
        refine Exs.cons ?_
        refine Ex.assign (by rfl) ?_
        refine Ev.binop ?_
        refine Ev.binop ?_
        refine Ev.flt ?_
        refine Ev.loc (by (repeat (first | assumption | with_reducible exact lk0 | with_reducible refine lkb (by kernel_rfl) ?_ | simp only [List.reverse_cons, List.reverse_nil, List.nil_append, List.cons_append]))) rfl (by kernel_rfl) (by kernel_rfl) ?_
        refine Op2.addF ?_
        refine Ev.loc (by (repeat (first | assumption | with_reducible exact lk0 | with_reducible refine lkb (by kernel_rfl) ?_ | simp only [List.reverse_cons, List.reverse_nil, List.nil_append, List.cons_append]))) rfl (by kernel_rfl) (by kernel_rfl) ?_
        refine Op2.subF ?_
        refine Sto.loc (by kernel_rfl) (by kernel_rfl) ?_
        refine Exs.nil ?_
        refine Exs.nil ?_
        refine Exs.cons ?_
        refine Ex.assign (by rfl) ?_
        refine Ev.binop ?_
        refine Ev.binop ?_
        refine Ev.loc (by (repeat (first | assumption | with_reducible exact lk0 | with_reducible refine lkb (by kernel_rfl) ?_ | simp only [List.reverse_cons, List.reverse_nil, List.nil_append, List.cons_append]))) rfl (by kernel_rfl) (by kernel_rfl) ?_
        refine Ev.flt ?_
        refine Op2.divF (by kernel_rfl) ?_
        refine Ev.flt ?_
        refine Op2.modF (by kernel_rfl) ?_
        refine Sto.loc (by kernel_rfl) (by kernel_rfl) ?_
        refine Exs.cons ?_
        refine Ex.ret ?_
        refine Ev.tup ?_
        refine Arg.cons ?_
        refine Ev.loc (by (repeat (first | assumption | with_reducible exact lk0 | with_reducible refine lkb (by kernel_rfl) ?_ | simp only [List.reverse_cons, List.reverse_nil, List.nil_append, List.cons_append]))) rfl (by kernel_rfl) (by kernel_rfl) ?_
        refine Arg.cons ?_
        refine Ev.loc (by (repeat (first | assumption | with_reducible exact lk0 | with_reducible refine lkb (by kernel_rfl) ?_ | simp only [List.reverse_cons, List.reverse_nil, List.nil_append, List.cons_append]))) rfl (by kernel_rfl) (by kernel_rfl) ?_
        refine Arg.cons ?_
        refine Ev.loc (by (repeat (first | assumption | with_reducible exact lk0 | with_reducible refine lkb (by kernel_rfl) ?_ | simp only [List.reverse_cons, List.reverse_nil, List.nil_append, List.cons_append]))) rfl (by kernel_rfl) (by kernel_rfl) ?_
        refine Arg.nil ?_
        refine ⟨by simp, ?_⟩
        have h' := h (Float64.div (raF r g b) (mxF r g b)) (mxF r g b)
        simp only [hueF, if_neg c1, if_neg c2] at h'
        exact h'

end

section
open PySem PySem.Sre

/-- the machine comes to its end in n steps -/
inductive Ends : Nat → M → M → Prop
  | done {m : M} : m.outcome.isSome = true → Ends 0 m m
  | step {n : Nat} {m m' : M} : m.outcome = none → Ends n m.step m' → Ends (n + 1) m m'

theorem Ends.run {n : Nat} {m m' : M} (h : Ends n m m') : ∀ k, if n ≤ k then m.runFor k = m' ∧ m'.outcome.isSome = true else (m.runFor k).outcome = none ∧ Ends (n - k) (m.runFor k) m' := by
  induction h with
  | @done m h =>
    intro k
    rw [if_pos (Nat.zero_le _)]
    cases k with
    | zero => exact ⟨rfl, h⟩
    | succ k => unfold M.runFor; rw [if_pos h]; exact ⟨rfl, h⟩
  | @step n m m' h1 h2 ih =>
    intro k
    cases k with
    | zero => rw [if_neg (by omega)]; exact ⟨h1, .step h1 h2⟩
    | succ k =>
      unfold M.runFor
      rw [if_neg (show ¬ m.outcome.isSome = true by rw [h1]; simp)]
      have := ih k
      by_cases q : n ≤ k
      · rw [if_pos q] at this; rw [if_pos (by omega)]; exact this
      · rw [if_neg q] at this; rw [if_neg (by omega), show n + 1 - (k + 1) = n - k by omega]; exact this

section
variable {prog : Program} {w : World} {A : Around} {E : Value → Shared → Prop} {s : Shared}
theorem wp_drive {Q : M → Shared → Prop} {m' : M} (hq : Q m' s) : ∀ (T n : Nat) (m : M), Ends n m m' → n < 4 * T → wpAny (model prog w) A (Builtin.Re.reDrive T m) Q E s
  | 0, n, m, _, h => by omega
  | T + 1, n, m, he, h => by
    unfold Builtin.Re.reDrive
    have := he.run 4
    show wpAny _ A (if (m.runFor 4).outcome.isSome then pure (m.runFor 4) else do rule "sre.turn"; Builtin.Re.reDrive T (m.runFor 4)) Q E s
    by_cases q : n ≤ 4
    · rw [if_pos q] at this
      obtain ⟨e1, e2⟩ := this
      rw [e1, if_pos e2]; exact wpAny_pure hq
    · rw [if_neg q] at this
      obtain ⟨e1, e2⟩ := this
      rw [e1]
      exact wpAny_bind (wpAny_rule (wp_drive hq T (n - 4) _ e2 (by omega)))
theorem wp_names {seen : Seen} {Q : Unit → Shared → Prop} (h : Q () s) : ∀ l : List Nat, wpAny (model prog w) A (forIn l () fun i r => if seen.has i = true then do rule (Sre.names.getD i ""); pure (ForInStep.yield ()) else pure (ForInStep.yield ())) Q E s
  | [] => by rw [List.forIn_nil]; exact wpAny_pure h
  | i :: l => by
    rw [List.forIn_cons]
    by_cases q : seen.has i = true
    · rw [if_pos q]; exact wpAny_bind (wpAny_bind (wpAny_rule (wpAny_pure (wp_names h l))))
    · rw [if_neg q]; exact wpAny_bind (wpAny_pure (wp_names h l))
theorem wp_runToEnd {Q : Option M → Shared → Prop} {m m' : M} {n : Nat} (he : Ends n m m') (hn : n < 1000000) {r : Option M}
    (hr : (m'.outcome = some .matched ∧ r = some m') ∨ (m'.outcome = some .failed ∧ r = none)) (hq : Q r s) : wpAny (model prog w) A (Builtin.Re.reRunToEnd m) Q E s := by
  unfold Builtin.Re.reRunToEnd
  refine wpAny_bind (wp_drive (m' := m') ?_ (2 ^ 64) n m he (by omega))
  refine wpAny_bind (wp_names (s := s) ?_ _)
  rcases hr with ⟨e, rfl⟩ | ⟨e, rfl⟩
  · rw [e]; exact wpAny_pure hq
  · rw [e]; exact wpAny_pure hq
end

-- the pattern for a dot at a line's beginning
noncomputable def code1 : Array Nat := #[14, 4, 0, 1, 1, 6, 1, 16, 46, 1]
noncomputable def mk1 (text : Array Nat) (s : Nat) (must outer : Bool) (marks : Array (Option Nat)) (seen : Seen) : M :=
  { code := code1, text, lim := text.size, start := s, lastStart := text.size, wholeText := false, mustAdvance := must, pc := 5, pos := s, handed := s, outermost := outer, marks, lastmark := -1, lastindex := -1, loops := #[], inner := none,
    frames := [{ wait := .nextStart, pc := 5, pos := s, outermost := outer }], weight := 1, answer := none, seen, outcome := none }
theorem step1 (text s must outer marks seen) : (mk1 text s must outer marks seen).step =
    (if (s == 0 || text.getD (s - 1) 0 == 10) = true then { mk1 text s must outer marks ((seen.add 6).add 44) with pc := 7 } else { mk1 text s must outer marks ((seen.add 6).add 44) with answer := some false }) := by
  rfl
theorem step1b (text s must outer marks seen) : ({ mk1 text s must outer marks seen with pc := 7 } : M).step =
    (if s ≥ text.size then { mk1 text s must outer marks (seen.add 16) with pc := 7, answer := some false } else if (text.getD s 0 == 46) = true then { mk1 text s must outer marks (seen.add 16) with pc := 9, pos := s + 1 } else { mk1 text s must outer marks (seen.add 16) with pc := 7, answer := some false }) := by
  show (if s ≥ text.size then _ else match (Except.ok (text.getD s 0 == 46, seen.add 16) : Except String (Bool × Seen)) with
    | .error why => _
    | .ok (false, seen) => _
    | .ok (true, seen) => _) = _
  by_cases h : s ≥ text.size
  · rw [if_pos h, if_pos h]; rfl
  · rw [if_neg h, if_neg h]
    cases q : (text.getD s 0 == 46)
    · rfl
    · rfl
theorem step1no (text s must outer marks seen pc) : ({ mk1 text s must outer marks seen with pc := pc, answer := some false } : M).step =
    (if s < text.size then mk1 text (s + 1) false false marks seen else { mk1 text s must outer marks seen with pc := 5, answer := some false, frames := [], weight := 0 }) := by
  rfl

/-- comes to its end within B steps, and P holds there -/
noncomputable def EP (B : Nat) (m : M) (P : M → Prop) : Prop := ∃ n m', n ≤ B ∧ Ends n m m' ∧ P m'
theorem EP.done {B : Nat} {m : M} {P : M → Prop} (h : m.outcome.isSome = true) (p : P m) : EP B m P := ⟨0, m, Nat.zero_le _, .done h, p⟩
theorem EP.step {B : Nat} {m : M} {P : M → Prop} (h : m.outcome = none) (e : EP B m.step P) : EP (B + 1) m P := let ⟨n, m', h1, h2, p⟩ := e; ⟨n + 1, m', Nat.succ_le_succ h1, .step h h2, p⟩
theorem EP.le {B C : Nat} {m : M} {P : M → Prop} (e : EP B m P) (h : B ≤ C) : EP C m P := let ⟨n, m', h1, h2, p⟩ := e; ⟨n, m', Nat.le_trans h1 h, h2, p⟩
noncomputable def Hit (b e : Nat) (m : M) : Prop := m.outcome = some .matched ∧ m.start = b ∧ m.handed = e
noncomputable def Miss (m : M) : Prop := m.outcome = some .failed
noncomputable def at1 (text : Array Nat) (s : Nat) : Bool := (s == 0 || text.getD (s - 1) 0 == 10) && decide (s < text.size) && text.getD s 0 == 46

theorem hit1 {text : Array Nat} {s : Nat} {must outer marks seen} (h : at1 text s = true) : EP 5 (mk1 text s must outer marks seen) (Hit s (s + 1)) := by
  simp only [at1, Bool.and_eq_true, decide_eq_true_eq] at h
  obtain ⟨⟨hb, hs⟩, hc⟩ := h
  refine .step rfl ?_
  rw [step1, if_pos hb]
  refine .step rfl ?_
  rw [step1b, if_neg (by omega), if_pos hc]
  refine .step rfl ?_
  have e3 : ({ mk1 text s must outer marks ((Seen.add (Seen.add seen 6) 44).add 16) with pc := 9, pos := s + 1 } : M).step = { mk1 text s must outer marks (((Seen.add (Seen.add seen 6) 44).add 16).add 1) with pc := 9, pos := s + 1, handed := s + 1, answer := some true } := by
    show (if (outer && ((false && _) || (must && (s + 1 == s)))) = true then _ else _) = _
    have : (s + 1 == s) = false := beq_eq_false_iff_ne.mpr (by omega)
    rw [this]
    simp
    rfl
  rw [e3]
  refine .step rfl ?_
  refine .step rfl ?_
  exact .done rfl ⟨rfl, rfl, rfl⟩
theorem miss1 {text : Array Nat} {s : Nat} {must outer marks seen P B} (h : at1 text s = false) (hs : s < text.size) (k : ∀ seen, EP B (mk1 text (s + 1) false false marks seen) P) : EP (B + 3) (mk1 text s must outer marks seen) P := by
  by_cases hb : (s == 0 || text.getD (s - 1) 0 == 10) = true
  · have hc : ¬ (text.getD s 0 == 46) = true := fun hc => by unfold at1 at h; rw [hb, hc, decide_eq_true hs] at h; cases h
    refine .step rfl ?_
    rw [step1, if_pos hb]
    refine .step rfl ?_
    rw [step1b, if_neg (by omega), if_neg hc]
    refine .step rfl ?_
    rw [step1no, if_pos hs]
    exact k _
  · refine EP.le (B := B + 2) (.step rfl ?_) (by omega)
    rw [step1, if_neg hb]
    refine .step rfl ?_
    rw [step1no, if_pos hs]
    exact k _
theorem end1 {text : Array Nat} {s : Nat} {must outer marks seen} (hs : s = text.size) : EP 4 (mk1 text s must outer marks seen) Miss := by
  by_cases hb : (s == 0 || text.getD (s - 1) 0 == 10) = true
  · refine .step rfl ?_
    rw [step1, if_pos hb]
    refine .step rfl ?_
    rw [step1b, if_pos (by omega)]
    refine .step rfl ?_
    rw [step1no, if_neg (by omega)]
    refine .step rfl ?_
    exact .done rfl rfl
  · refine EP.le (B := 3) (.step rfl ?_) (by omega)
    rw [step1, if_neg hb]
    refine .step rfl ?_
    rw [step1no, if_neg (by omega)]
    refine .step rfl ?_
    exact .done rfl rfl
theorem scan1 {text : Array Nat} {e : Nat} : ∀ (d s : Nat) (must outer marks seen), s + d = e → e ≤ text.size → (∀ j, s ≤ j → j < e → at1 text j = false) →
    (at1 text e = true → EP (5 + 3 * d) (mk1 text s must outer marks seen) (Hit e (e + 1))) ∧ (e = text.size → EP (4 + 3 * d) (mk1 text s must outer marks seen) Miss)
  | 0, s, must, outer, marks, seen, h, hle, hno => by
    have : s = e := by omega
    subst this
    exact ⟨fun h1 => hit1 h1, fun h1 => end1 h1⟩
  | d + 1, s, must, outer, marks, seen, h, hle, hno => by
    have ih := fun seen => scan1 (text := text) (e := e) d (s + 1) false false marks seen (by omega) hle (fun j h1 h2 => hno j (by omega) h2)
    refine ⟨fun h1 => ?_, fun h1 => ?_⟩
    · exact (miss1 (hno s (Nat.le_refl _) (by omega)) (by omega) (fun seen => (ih seen).1 h1)).le (by omega)
    · exact (miss1 (hno s (Nat.le_refl _) (by omega)) (by omega) (fun seen => (ih seen).2 h1)).le (by omega)
theorem search1 (text : Array Nat) (s : Nat) (must : Bool) (hs : s < text.size) : ∃ seen, forSearch code1 text 0 s text.size must = mk1 text s must true (Array.replicate (2 * 0) none) seen := by
  refine ⟨(({} : Seen).add 14), ?_⟩
  show (if (decide (s > text.size) || decide (text.size - s < 1)) = true then _ else _) = _
  rw [if_neg (by simp; omega)]
  rfl
theorem search1_end (text : Array Nat) (s : Nat) (must : Bool) (hs : s = text.size) : EP 1 (forSearch code1 text 0 s text.size must) Miss := by
  have : forSearch code1 text 0 s text.size must = (if (decide (s > text.size) || decide (text.size - s < 1)) = true then _ else _) := rfl
  rw [this, if_pos (by simp; omega)]
  exact .step rfl (.done rfl rfl)

end

section
open PySem PySem.Sre

noncomputable def code2 : Array Nat := #[14, 9, 4, 1, 2, 16, 10, 16, 13, 0, 7, 7, 16, 13, 16, 10, 15, 18, 5, 16, 10, 15, 13, 11, 16, 13, 5, 5, 0, 16, 10, 1, 15, 2, 0, 1]
noncomputable def fS (s : Nat) (outer : Bool) : Sre.Frame := { wait := .nextStart, pc := 10, pos := s, outermost := outer }
noncomputable def fB (s a : Nat) (outer : Bool) : Sre.Frame := { wait := .nextBranch, pc := a, pos := s, outermost := outer }
noncomputable def fL (s : Nat) (outer : Bool) : Sre.Frame := { wait := .lookNot, pc := 26, pos := s, outermost := outer }
noncomputable def mk2 (text : Array Nat) (s : Nat) (seen : Seen) (pc pos handed : Nat) (outer : Bool) (fr : List Sre.Frame) (ans : Option Bool) : M :=
  { code := code2, text, lim := text.size, start := s, lastStart := text.size, wholeText := false, mustAdvance := false, pc, pos, handed, outermost := outer, marks := #[], lastmark := -1, lastindex := -1, loops := #[], inner := none,
    frames := fr, weight := fr.length, answer := ans, seen, outcome := none }

theorem lit2 {text s seen pos handed outer fr} (pc : Nat) (c : Nat) (h : (pc = 12 ∧ c = 13) ∨ (pc = 14 ∧ c = 10) ∨ (pc = 19 ∧ c = 10) ∨ (pc = 24 ∧ c = 13) ∨ (pc = 29 ∧ c = 10)) : (mk2 text s seen pc pos handed outer fr none).step =
    (if pos ≥ text.size then mk2 text s (seen.add 16) pc pos handed outer fr (some false) else if (text.getD pos 0 == c) = true then mk2 text s (seen.add 16) (pc + 2) (pos + 1) handed outer fr none else mk2 text s (seen.add 16) pc pos handed outer fr (some false)) := by
  rcases h with ⟨rfl, rfl⟩ | ⟨rfl, rfl⟩ | ⟨rfl, rfl⟩ | ⟨rfl, rfl⟩ | ⟨rfl, rfl⟩
  · by_cases h : pos ≥ text.size
    · rw [if_pos h]
      show (if pos ≥ text.size then _ else _) = _
      rw [if_pos h]; rfl
    · rw [if_neg h]
      show (if pos ≥ text.size then _ else match (Except.ok (text.getD pos 0 == 13, seen.add 16) : Except String (Bool × Seen)) with
        | .error why => _
        | .ok (false, seen) => _
        | .ok (true, seen) => _) = _
      rw [if_neg h]
      cases q : (text.getD pos 0 == 13)
      · rfl
      · rfl
  · by_cases h : pos ≥ text.size
    · rw [if_pos h]
      show (if pos ≥ text.size then _ else _) = _
      rw [if_pos h]; rfl
    · rw [if_neg h]
      show (if pos ≥ text.size then _ else match (Except.ok (text.getD pos 0 == 10, seen.add 16) : Except String (Bool × Seen)) with
        | .error why => _
        | .ok (false, seen) => _
        | .ok (true, seen) => _) = _
      rw [if_neg h]
      cases q : (text.getD pos 0 == 10)
      · rfl
      · rfl
  · by_cases h : pos ≥ text.size
    · rw [if_pos h]
      show (if pos ≥ text.size then _ else _) = _
      rw [if_pos h]; rfl
    · rw [if_neg h]
      show (if pos ≥ text.size then _ else match (Except.ok (text.getD pos 0 == 10, seen.add 16) : Except String (Bool × Seen)) with
        | .error why => _
        | .ok (false, seen) => _
        | .ok (true, seen) => _) = _
      rw [if_neg h]
      cases q : (text.getD pos 0 == 10)
      · rfl
      · rfl
  · by_cases h : pos ≥ text.size
    · rw [if_pos h]
      show (if pos ≥ text.size then _ else _) = _
      rw [if_pos h]; rfl
    · rw [if_neg h]
      show (if pos ≥ text.size then _ else match (Except.ok (text.getD pos 0 == 13, seen.add 16) : Except String (Bool × Seen)) with
        | .error why => _
        | .ok (false, seen) => _
        | .ok (true, seen) => _) = _
      rw [if_neg h]
      cases q : (text.getD pos 0 == 13)
      · rfl
      · rfl
  · by_cases h : pos ≥ text.size
    · rw [if_pos h]
      show (if pos ≥ text.size then _ else _) = _
      rw [if_pos h]; rfl
    · rw [if_neg h]
      show (if pos ≥ text.size then _ else match (Except.ok (text.getD pos 0 == 10, seen.add 16) : Except String (Bool × Seen)) with
        | .error why => _
        | .ok (false, seen) => _
        | .ok (true, seen) => _) = _
      rw [if_neg h]
      cases q : (text.getD pos 0 == 10)
      · rfl
      · rfl
theorem litY {text s seen pos handed outer fr P B} (pc : Nat) (c : Nat) (h : (pc = 12 ∧ c = 13) ∨ (pc = 14 ∧ c = 10) ∨ (pc = 19 ∧ c = 10) ∨ (pc = 24 ∧ c = 13) ∨ (pc = 29 ∧ c = 10)) (hp : pos < text.size) (hc : text.getD pos 0 = c)
    (k : ∀ seen, EP B (mk2 text s seen (pc + 2) (pos + 1) handed outer fr none) P) : EP (B + 1) (mk2 text s seen pc pos handed outer fr none) P := by
  refine .step rfl ?_
  rw [lit2 pc c h, if_neg (by omega), if_pos (by simp only [hc, beq_self_eq_true])]; exact k _
theorem litN {text s seen pos handed outer fr P B} (pc : Nat) (c : Nat) (h : (pc = 12 ∧ c = 13) ∨ (pc = 14 ∧ c = 10) ∨ (pc = 19 ∧ c = 10) ∨ (pc = 24 ∧ c = 13) ∨ (pc = 29 ∧ c = 10)) (hp : pos < text.size → text.getD pos 0 ≠ c)
    (k : ∀ seen, EP B (mk2 text s seen pc pos handed outer fr (some false)) P) : EP (B + 1) (mk2 text s seen pc pos handed outer fr none) P := by
  refine .step rfl ?_
  rw [lit2 pc c h]
  by_cases q : pos ≥ text.size
  · rw [if_pos q]; exact k _
  · rw [if_neg q, if_neg (by simpa using hp (by omega))]; exact k _
/-- the last word, the way back -/
theorem suc2 {text s seen pos handed outer pc} {B : Nat} (outer' : Bool) (h : pc = 16 ∨ pc = 21 ∨ pc = 32) (a : Nat) (hs : s < pos) : EP (B + 6) (mk2 text s seen pc pos handed outer [fB s a outer', fS s outer'] none) (Hit s pos) := by
  have e1 : (mk2 text s seen pc pos handed outer [fB s a outer', fS s outer'] none).step = mk2 text s (seen.add 15) 35 pos handed outer [fB s a outer', fS s outer'] none := by rcases h with rfl | rfl | rfl <;> rfl
  refine EP.le (B := 5) (.step rfl ?_) (by omega)
  rw [e1]
  refine .step rfl ?_
  have e3 : (mk2 text s (seen.add 15) 35 pos handed outer [fB s a outer', fS s outer'] none).step = mk2 text s ((seen.add 15).add 1) 35 pos pos outer [fB s a outer', fS s outer'] (some true) := by
    show (if (outer && ((false && _) || (false && (pos == s)))) = true then _ else _) = _
    rw [if_neg (by simp)]; rfl
  rw [e3]
  refine .step rfl ?_
  refine .step rfl ?_
  refine .step rfl ?_
  exact .done rfl ⟨rfl, rfl, rfl⟩
theorem at2 {text : Array Nat} {s : Nat} {seen outer} (hs : s < text.size) (hc : text.getD s 0 = 10 ∨ text.getD s 0 = 13) :
    EP 20 (mk2 text s seen 10 s s outer [fS s outer] none) (Hit s (if text.getD s 0 = 13 ∧ s + 1 < text.size ∧ text.getD (s + 1) 0 = 10 then s + 2 else s + 1)) := by
  have e1 : (mk2 text s seen 10 s s outer [fS s outer] none).step = mk2 text s (seen.add 7) 12 s s outer [fB s 11 outer, fS s outer] none := by rfl
  refine .step rfl ?_
  rw [e1]
  rcases hc with hc | hc
  · rw [if_neg (by rw [hc]; simp)]
    refine litN 12 13 (by simp) (fun _ => by rw [hc]; decide) fun seen => ?_
    refine .step rfl ?_
    have e2 : (mk2 text s seen 12 s s outer [fB s 11 outer, fS s outer] (some false)).step = mk2 text s seen 19 s s outer [fB s 18 outer, fS s outer] none := by rfl
    rw [e2]
    refine litY 19 10 (by simp) hs hc fun seen => ?_
    exact (suc2 outer (B := 0) (by simp) 18 (by omega)).le (by omega)
  · by_cases hn : s + 1 < text.size ∧ text.getD (s + 1) 0 = 10
    · rw [if_pos ⟨hc, hn⟩]
      refine litY 12 13 (by simp) hs hc fun seen => ?_
      refine litY 14 10 (by simp) hn.1 hn.2 fun seen => ?_
      exact (suc2 outer (B := 0) (by simp) 11 (by omega)).le (by omega)
    · rw [if_neg (fun z => hn z.2)]
      have hno : s + 1 < text.size → text.getD (s + 1) 0 ≠ 10 := fun h1 h2 => hn ⟨h1, h2⟩
      refine litY 12 13 (by simp) hs hc fun seen => ?_
      refine litN 14 10 (by simp) hno fun seen => ?_
      refine .step rfl ?_
      have e2 : (mk2 text s seen 14 (s + 1) s outer [fB s 11 outer, fS s outer] (some false)).step = mk2 text s seen 19 s s outer [fB s 18 outer, fS s outer] none := by rfl
      rw [e2]
      refine litN 19 10 (by simp) (fun _ => by rw [hc]; decide) fun seen => ?_
      refine .step rfl ?_
      have e3 : (mk2 text s seen 19 s s outer [fB s 18 outer, fS s outer] (some false)).step = mk2 text s seen 24 s s outer [fB s 23 outer, fS s outer] none := by rfl
      rw [e3]
      refine litY 24 13 (by simp) hs hc fun seen => ?_
      refine .step rfl ?_
      have e4 : (mk2 text s seen 26 (s + 1) s outer [fB s 23 outer, fS s outer] none).step = mk2 text s (seen.add 5) 29 (s + 1) (s + 1) false [fL (s + 1) outer, fB s 23 outer, fS s outer] none := by rfl
      rw [e4]
      refine litN 29 10 (by simp) hno fun seen => ?_
      refine .step rfl ?_
      have e5 : (mk2 text s seen 29 (s + 1) (s + 1) false [fL (s + 1) outer, fB s 23 outer, fS s outer] (some false)).step = mk2 text s seen 32 (s + 1) (s + 1) outer [fB s 23 outer, fS s outer] none := by rfl
      rw [e5]
      exact (suc2 outer (B := 0) (by simp) 23 (by omega)).le (by omega)

noncomputable def isNl (c : Nat) : Bool := c == 10 || c == 13
theorem set2 (c : Nat) (seen : Seen) : ∃ seen', inSet code2 c code2.size 5 true seen = .ok (isNl c, seen') := by
  by_cases h1 : c = 10
  · subst h1; exact ⟨_, rfl⟩
  · by_cases h2 : c = 13
    · subst h2; exact ⟨_, rfl⟩
    · have e1 : (c == 10) = false := beq_eq_false_iff_ne.mpr h1
      have e2 : (c == 13) = false := beq_eq_false_iff_ne.mpr h2
      refine ⟨((seen.add 16).add 16).add 0, ?_⟩
      show (if (c == 10) = true then _ else if (c == 13) = true then _ else Except.ok (!true, _)) = _
      rw [if_neg (by rw [e1]; simp), if_neg (by rw [e2]; simp)]
      unfold isNl
      rw [e1, e2]; rfl
/-- the first line end from s on -/
theorem adm2 {m : M} (hc : m.code = code2) {e : Nat} : ∀ (d s fuel : Nat) (seen : Seen), s + d = e → d < fuel → e ≤ m.lim → (∀ j, s ≤ j → j < e → isNl (m.text.getD j 0) = false) →
    (e < m.lim → isNl (m.text.getD e 0) = true → ∃ seen', M.admitted m fuel s seen = .ok (some e, seen')) ∧ (e = m.lim → ∃ seen', M.admitted m fuel s seen = .ok (none, seen'))
  | d, s, 0, seen, h, hf, _, _ => by omega
  | 0, s, fuel + 1, seen, h, hf, hle, hno => by
    have : s = e := by omega
    subst this
    refine ⟨fun h1 h2 => ?_, fun h1 => ?_⟩
    · obtain ⟨seen', q⟩ := set2 (m.text.getD s 0) seen
      unfold M.admitted
      rw [if_neg (by omega), hc, q, h2]
      exact ⟨_, rfl⟩
    · unfold M.admitted
      rw [if_pos (by omega)]
      exact ⟨_, rfl⟩
  | d + 1, s, fuel + 1, seen, h, hf, hle, hno => by
    obtain ⟨seen', q⟩ := set2 (m.text.getD s 0) seen
    have ih := adm2 hc (e := e) d (s + 1) fuel seen' (by omega) (by omega) hle (fun j h1 h2 => hno j (by omega) h2)
    have hs := hno s (Nat.le_refl _) (by omega)
    have e1 : M.admitted m (fuel + 1) s seen = M.admitted m fuel (s + 1) seen' := by
      conv => lhs; unfold M.admitted
      rw [if_neg (by omega), hc, q, hs]
    rw [e1]
    exact ih
theorem search2 {text : Array Nat} {s e : Nat} {must : Bool} (h : s ≤ e) (he : e < text.size) (hno : ∀ j, s ≤ j → j < e → isNl (text.getD j 0) = false) (hy : isNl (text.getD e 0) = true) :
    EP 20 (forSearch code2 text 0 s text.size must) (Hit e (if text.getD e 0 = 13 ∧ e + 1 < text.size ∧ text.getD (e + 1) 0 = 10 then e + 2 else e + 1)) := by
  have e0 : forSearch code2 text 0 s text.size must = (if (decide (s > text.size) || decide (text.size - s < 1)) = true then _ else _) := rfl
  rw [e0, if_neg (by simp; omega)]
  generalize hm : ({ code := code2, text, lim := text.size, start := s, pc := 10, pos := s, handed := s, marks := Array.replicate (2 * 0) none, mustAdvance := must, seen := ({} : Seen).add 14, lastStart := text.size } : M) = m0
  have hc : m0.code = code2 := by rw [← hm]
  have hl : m0.lim = text.size := by rw [← hm]
  have ht : m0.text = text := by rw [← hm]
  obtain ⟨seen', q⟩ := (adm2 (m := m0) hc (e := e) (e - s) s (m0.lim + 1 - s) m0.seen (by omega) (by omega) (by omega) (by rw [ht]; exact hno)).1 (by omega) (by rw [ht]; exact hy)
  have e1 : M.attemptFrom m0 s true = mk2 text e seen' 10 e e true [fS e true] none := by
    unfold M.attemptFrom
    rw [if_neg (show ¬ ((!m0.hasFirstSet) = true) by rw [← hm]; exact Bool.false_ne_true), q]
    rw [← hm]
    rfl
  have hy' : text.getD e 0 = 10 ∨ text.getD e 0 = 13 := by
    simp only [isNl, Bool.or_eq_true, beq_iff_eq] at hy; exact hy
  have fin : EP 20 (M.attemptFrom m0 s true) (Hit e (if text.getD e 0 = 13 ∧ e + 1 < text.size ∧ text.getD (e + 1) 0 = 10 then e + 2 else e + 1)) := by
    rw [e1]; exact at2 he hy'
  rw [← hm] at fin
  exact fin
theorem search2_end {text : Array Nat} {s : Nat} {must : Bool} (h : s ≤ text.size) (hno : ∀ j, s ≤ j → j < text.size → isNl (text.getD j 0) = false) :
    EP 1 (forSearch code2 text 0 s text.size must) Miss := by
  have e0 : forSearch code2 text 0 s text.size must = (if (decide (s > text.size) || decide (text.size - s < 1)) = true then _ else _) := rfl
  rw [e0]
  by_cases hs : s = text.size
  · rw [if_pos (by simp; omega)]
    exact .step rfl (.done rfl rfl)
  · rw [if_neg (by simp; omega)]
    generalize hm : ({ code := code2, text, lim := text.size, start := s, pc := 10, pos := s, handed := s, marks := Array.replicate (2 * 0) none, mustAdvance := must, seen := ({} : Seen).add 14, lastStart := text.size } : M) = m0
    have hc : m0.code = code2 := by rw [← hm]
    have hl : m0.lim = text.size := by rw [← hm]
    have ht : m0.text = text := by rw [← hm]
    obtain ⟨seen', q⟩ := (adm2 (m := m0) hc (e := text.size) (text.size - s) s (m0.lim + 1 - s) m0.seen (by omega) (by omega) (by omega) (by rw [ht]; exact hno)).2 (by omega)
    have e1 : M.attemptFrom m0 s true = { m0 with seen := seen', answer := some false } := by
      unfold M.attemptFrom
      rw [if_neg (show ¬ ((!m0.hasFirstSet) = true) by rw [← hm]; exact Bool.false_ne_true), q]
      rfl
    have fin : EP 1 (M.attemptFrom m0 s true) Miss := by
      rw [e1, ← hm]
      exact .step rfl (.done rfl rfl)
    rw [← hm] at fin
    exact fin

end

section
open PySem PySem.Sre PyProof.Rows PySem.W

/-- a pattern's object -/
structure Pat (h : Heap) (p : Addr) (code : Array Nat) : Prop where
  obj : ∃ a b c1 c2 C its, h.get? p = some { cls := .type "re.Pattern", data := .fields #[a, b, .int 0 c1, .none, .none, .ref C, .int 0 c2] } ∧ h.get? C = some { cls := .type "tuple", data := .seq its 0 } ∧ (its.map Builtin.Re.reRawOf).map (·.toNat) = code
theorem Pat.at {h h' p code} (x : Pat h p code) (k : ∀ b o, h.get? b = some o → h'.get? b = some o) : Pat h' p code := let ⟨a, b, c1, c2, C, its, e1, e2, e3⟩ := x.obj; ⟨a, b, c1, c2, C, its, k _ _ e1, k _ _ e2, e3⟩

section
variable {prog : Program} {w : World} {A : Around} {E : Value → Shared → Prop} {s : Shared}
theorem wp_target {p : Addr} {code : Array Nat} {x : Str} {t : Tok} {Q : Builtin.Re.ReTarget → Shared → Prop} (P : Pat s.heap p code)
    (h : Q { pattern := .ref p, string := .str x t, code, text := x.cps, kind := 0, groups := 0, pos := 0, lim := x.cps.size } s) : wpAny (model prog w) A (Builtin.Re.reWholeTarget (.ref p) (.str x t)) Q E s := by
  obtain ⟨a, b, c1, c2, C, its, e1, e2, e3⟩ := P.obj
  unfold Builtin.Re.reWholeTarget
  refine wpAny_bind (wpAny_fieldsOf e1 rfl ?_)
  refine wpAny_bind (wpAny_pure ?_)
  show wpAny _ A (Builtin.Re.reNoCollectionInside (.str x t) 0 >>= _) Q E s
  refine wpAny_bind (wpAny_pure ?_)
  show wpAny _ A (Builtin.Re.reRawItems (.ref C) >>= _) Q E s
  unfold Builtin.Re.reRawItems
  refine wpAny_bind (wpAny_bind (wpAny_seqItems e2 rfl ?_))
  refine wpAny_pure (wpAny_pure ?_)
  show Q { pattern := .ref p, string := .str x t, code := (its.map Builtin.Re.reRawOf).map (·.toNat), text := x.cps, kind := 0, groups := 0, pos := 0, lim := x.cps.size } s
  rw [e3]; exact h

theorem F_entry_sub_loop : entryFor table "re.Pattern.sub.loop" = some Builtin.«re.Pattern.sub.loop» := entryFor_of_tree (by kernel_rfl)
theorem F_plain_sub_loop : plainId "re.Pattern.sub.loop" = true := by decide +kernel

inductive Mat (code text : Array Nat) : Nat → Bool → List (Nat × Nat) → Prop
  | nil {s must} : EP 900000 (forSearch code text 0 s text.size must) Miss → Mat code text s must []
  | cons {s must b e ms} : EP 900000 (forSearch code text 0 s text.size must) (Hit b e) → Mat code text e (e == b) ms → Mat code text s must ((b, e) :: ms)
noncomputable def cut (x : Str) (b e : Nat) : Str := ⟨x.cps.extract b e⟩
noncomputable def pcs (x r : Str) : Nat → List (Nat × Nat) → List Str
  | d, [] => if d < x.cps.size then [cut x d x.cps.size] else []
  | d, (b, e) :: ms => (if d < b then [cut x d b] else []) ++ r :: pcs x r e ms

theorem wp_next {code text : Array Nat} {st : Nat} {must : Bool} {pt sr : Value} {k g ps : Nat} {Q : Option M → Shared → Prop} {B : Nat} {P : M → Prop} (he : EP 900000 (forSearch code text g st text.size must) P)
    (hP : ∀ m, P m → ∃ r, ((m.outcome = some .matched ∧ r = some m) ∨ (m.outcome = some .failed ∧ r = none)) ∧ Q r s) :
    wpAny (model prog w) A (Builtin.Re.reNextFound { pattern := pt, string := sr, code, text, kind := k, groups := g, pos := ps, lim := text.size } st must) Q E s := by
  obtain ⟨n, m', hn, h2, p⟩ := he
  obtain ⟨r, hr, hq⟩ := hP m' p
  exact wp_runToEnd h2 (by omega) hr hq

theorem StrsAre.snoc {vs : List Value} {ys : List Str} {y : Str} {t : Tok} (h : StrsAre vs ys) : StrsAre (vs ++ [.str y t]) (ys ++ [y]) := by
  induction h with
  | nil => exact .cons y t .nil
  | cons z u _ ih => exact .cons z u ih
theorem wp_push {D : Addr} {acc : Array Value} {m : Nat} {v : Value} {Q : Unit → Shared → Prop} (hD : s.heap.get? D = some (listOf acc m)) (hs : acc.size ≤ 1000)
    (h : ∀ h' m', h'.get? D = some (listOf (acc.push v) m') → (∀ b o, b ≠ D → s.heap.get? b = some o → h'.get? b = some o) → Q () { s with heap := h' }) : wpAny (model prog w) A (updateSeq D (·.push v)) Q E s := by
  refine wpAny_updateSeq hD rfl ?_ (by rw [sizeLine_eq]; omega) (by rw [sizeLine_eq]; simp; omega)
  refine h _ (m + 1) ?_ fun b o hb e => (Heap.get?_update_other _ _ (Ne.symm hb)).trans e
  rw [Heap.get?_update_self _ hD (by rw [Obj.mapSeq_push_plain]; rfl), Obj.mapSeq_push_plain]
theorem wp_piece {β : Type} {D : Addr} {acc : Array Value} {ys : List Str} {m : Nat} {x : Str} {b e : Nat} {c : Prop} [Decidable c] {K : Unit → Sem β} {Q : β → Shared → Prop} (hD : s.heap.get? D = some (listOf acc m)) (hi : StrsAre acc.toList ys) (hs : acc.size ≤ 1000) (hx : x.cps.size ≤ 100000)
    (h : ∀ h' tk acc' m', h'.get? D = some (listOf acc' m') → StrsAre acc'.toList (ys ++ (if c then [cut x b e] else [])) → acc'.size ≤ acc.size + 1 → (∀ b o, b ≠ D → s.heap.get? b = some o → h'.get? b = some o) → wpAny (model prog w) A (K ()) Q E { s with heap := h', toks := tk }) :
    wpAny (model prog w) A (if c then do let y ← Builtin.Re.reSlice x.cps 0 b e; let r ← updateSeq D (·.push y); K r else K ()) Q E s := by
  by_cases hc : c
  · rw [if_pos hc]
    refine wpAny_bind (wpAny_mkStr ?_ (by rw [sizeLine_eq]; show (x.cps.extract b e).size ≤ _; rw [Array.size_extract]; omega))
    refine wpAny_bind (wp_push (s := { s with toks := s.toks + 1 }) hD hs fun h' m' e1 k => ?_)
    exact h h' (s.toks + 1) _ m' e1 (by rw [Array.toList_push, if_pos hc]; exact StrsAre.snoc hi) (by simp) k
  · rw [if_neg hc]
    exact h s.heap s.toks acc m hD (by rw [if_neg hc]; simpa using hi) (by omega) fun _ _ _ e => e
theorem sub_loop {p : Addr} {code : Array Nat} {x r : Str} {t u : Tok} {D : Addr} (hx : x.cps.size ≤ 100000) {R : Result → Shared → Prop} : ∀ (ms : List (Nat × Nat)) (done n : Nat) (must : Bool) (acc : Array Value) (m : Nat) (ys : List Str) (s : Shared),
    Pat s.heap p code → (∀ h', (∀ b o, b ≠ D → s.heap.get? b = some o → h'.get? b = some o) → Pat h' p code) → s.heap.get? D = some (listOf acc m) → StrsAre acc.toList ys → acc.size + 2 * ms.length ≤ 900 → Mat code x.cps done must ms →
    ((ys ++ pcs x r done ms).map (·.length)).sum + (ys ++ pcs x r done ms).length ≤ 1048576 →
    (∀ h' tk t', (∀ b o, b ≠ D → s.heap.get? b = some o → h'.get? b = some o) → R (.ok (.ret (.str (Txt.join ⟨#[]⟩ (ys ++ pcs x r done ms)) t'))) { s with heap := h', toks := tk }) →
    codeAny (model prog w) A (.builtin "re.Pattern.sub.loop" ⟨[.ref p, .str x t, .str r u, rawInt 0, rawInt 0, rawInt n, rawInt done, rawInt done, .bool must, .ref D, .bool false], []⟩) R s
  | [], done, n, must, acc, m, ys, s, P, Pk, hD, hi, hsz, hM, hw, hR => by
    refine codeAny_builtin F_entry_sub_loop ?_
    rw [Around.under_plainId F_plain_sub_loop _]
    show wpAny _ A.in1 (Builtin.Re.reWholeTarget (.ref p) (.str x t) >>= _) _ _ s
    refine wpAny_bind (wp_target P ?_)
    show wpAny _ A.in1 (Builtin.Re.reNextFound { pattern := .ref p, string := .str x t, code, text := x.cps, kind := 0, groups := 0, pos := 0, lim := x.cps.size } done must >>= _) _ _ s
    cases hM with | nil hM =>
    refine wpAny_bind (wp_next (B := 0) hM fun m' hm => ⟨none, .inr ⟨hm, rfl⟩, ?_⟩)
    refine wp_piece (ys := ys) hD hi (by simp at hsz; omega) hx fun h' tk acc' m' e1 hi' hz k => ?_
    have hpc : (ys ++ if (done : Int).toNat < x.cps.size then [cut x (done : Int).toNat x.cps.size] else []) = ys ++ pcs x r done [] := by simp [pcs]
    rw [hpc] at hi'
    show wpAny _ A.in1 (Builtin.Re.reSlice x.cps 0 0 0 >>= _) _ _ _
    refine wpAny_bind (wpAny_mkStr ?_ (by rw [sizeLine_eq]; show (x.cps.extract 0 0).size ≤ _; rw [Array.size_extract]; omega))
    refine wpAny_bind (wpAny_seqItems e1 rfl ?_)
    have hem : (x.cps.extract 0 0) = (#[] : Array Nat) := by simp
    refine wpAny_ite_split (fun he => ?_) (fun he => ?_)
    · refine wpAny_bind (wpAny_pure ?_)
      have h0 : acc' = #[] := by simpa using he
      rw [h0] at hi'
      have h1 : ys ++ pcs x r done [] = [] := by
        generalize ys ++ pcs x r done [] = zs at hi'
        cases hi'; rfl
      have := hR h' (tk + 1) tk k
      rw [h1] at this
      exact wpAny_pure (by rw [hem]; exact this)
    · refine wpAny_bind ?_
      show wpAny _ A.in1 (call (.builtin "str.join") [.str ⟨x.cps.extract 0 0⟩ tk, .ref D]) _ _ _
      rw [hem]
      refine join_listW (isList_of e1) hi' (by simp [Str.length]) hw fun t' k' => ?_
      exact wpAny_pure (hR h' k' t' k)
  | (b, e) :: ms, done, n, must, acc, m, ys, s, P, Pk, hD, hi, hsz, hM, hw, hR => by
    refine codeAny_builtin F_entry_sub_loop ?_
    rw [Around.under_plainId F_plain_sub_loop _]
    show wpAny _ A.in1 (Builtin.Re.reWholeTarget (.ref p) (.str x t) >>= _) _ _ s
    refine wpAny_bind (wp_target P ?_)
    show wpAny _ A.in1 (Builtin.Re.reNextFound { pattern := .ref p, string := .str x t, code, text := x.cps, kind := 0, groups := 0, pos := 0, lim := x.cps.size } done must >>= _) _ _ s
    cases hM with | cons hM hN =>
    refine wpAny_bind (wp_next (B := 0) hM fun m' hm => ⟨some m', .inl ⟨hm.1, rfl⟩, ?_⟩)
    obtain ⟨_, hb, he⟩ := hm
    refine wp_piece (ys := ys) hD hi (by simp at hsz; omega) hx fun h' tk acc' m2 e1 hi' hz k => ?_
    rw [hb, he]
    refine wpAny_ite_split (fun _ => ?_) (fun h => absurd rfl h)
    refine wpAny_bind (wpAny_pure ?_)
    refine wpAny_ite_split (fun _ => ?_) (fun h => absurd rfl h)
    refine wpAny_bind (wp_push e1 (by simp at hsz; omega) fun h2 m3 e2 k2 => ?_)
    have kk : ∀ b o, b ≠ D → s.heap.get? b = some o → h2.get? b = some o := fun b o hb e => k2 b o hb (k b o hb e)
    refine wpAny_pure ⟨plainId_quiet F_plain_sub_loop _, ?_⟩
    have hpc : ys ++ pcs x r done ((b, e) :: ms) = (ys ++ (if (done : Int).toNat < b then [cut x (done : Int).toNat b] else []) ++ [r]) ++ pcs x r e ms := by simp [pcs]
    refine sub_loop hx ms e (n + 1) (e == b) (acc'.push (.str r u)) m3 (ys ++ (if (done : Int).toNat < b then [cut x (done : Int).toNat b] else []) ++ [r]) _ (Pk h2 kk) (fun h3 k3 => Pk h3 fun b o hb e => k3 b o hb (kk b o hb e)) e2
      (by rw [Array.toList_push]; rw [hb] at hi'; exact StrsAre.snoc hi') (by simp at hsz ⊢; omega) hN (by rw [← hpc]; exact hw) fun h3 tk3 t3 k3 => ?_
    rw [← hpc]
    exact hR h3 tk3 t3 fun b o hb e => k3 b o hb (kk b o hb e)
end

end

section
open PySem PySem.Sre PyProof.Rows PySem.W

theorem plainAttrs_pat : PlainAttrs "re.Pattern" :=
  ⟨⟨"object.__getattribute__", by rw [typeLookup_type, builtinLookup_eq_fast]; kernel_rfl, by decide +kernel⟩, by rw [typeLookup_type, builtinLookup_eq_fast]; kernel_rfl⟩
theorem slot_pat_sub : Slot "re.Pattern" "sub" "re.Pattern.sub" :=
  .of (owner := "re.Pattern") (n := "sub") (by rw [typeLookup_type, builtinLookup_eq_fast]; kernel_rfl) (by decide +kernel) (by decide +kernel) (by decide +kernel)
    (by first | exact .inl (by decide +kernel) | exact .inr (by decide +kernel)) (by rw [isSubtype_type]; kernel_rfl)
theorem type_pat_sub : typeOf (.builtin "re.Pattern.sub") = pure (.type "method_descriptor") := by show builtinType _ = _; rw [builtinType_eq_fast]; kernel_rfl
theorem entry_pat_sub : entryFor table "re.Pattern.sub" = some Builtin.«re.Pattern.sub» := entryFor_of_tree (by kernel_rfl)
theorem args_pat_sub (a b c : Value) : argsOk "re.Pattern.sub" ⟨[a, b, c], []⟩ := by
  unfold argsOk; kernel_rfl
theorem str_no_call : typeLookup (.type "str") "__call__" = pure none := by rw [typeLookup_type, builtinLookup_eq_fast]; kernel_rfl
section
variable {prog : Program} {w : World} {A : Around} {E : Value → Shared → Prop} {s : Shared}
theorem sub_call {p : Addr} {code : Array Nat} {x r : Str} {t u : Tok} {ms : List (Nat × Nat)} {Q : Value → Shared → Prop} (hx : x.cps.size ≤ 100000) (hr : r.cps.contains 92 = false) (P : Pat s.heap p code) (hsz : 2 * ms.length ≤ 900) (hM : Mat code x.cps 0 false ms)
    (hw : ((pcs x r 0 ms).map (·.length)).sum + (pcs x r 0 ms).length ≤ 1048576)
    (hQ : ∀ h' tk t', (∀ b o, s.heap.get? b = some o → h'.get? b = some o) → Q (.str (Txt.join ⟨#[]⟩ (pcs x r 0 ms)) t') { s with heap := h', toks := tk }) :
    wpAny (model prog w) A (call (.builtin "re.Pattern.sub") [.ref p, .str r u, .str x t]) Q E s := by
  have hT : s.TypeIs (.ref p) "re.Pattern" := by obtain ⟨_, _, _, _, _, _, e, _⟩ := P.obj; exact ⟨_, e, rfl⟩
  refine wpAny_call (codeAny_call_builtin slot_pat_sub.plain entry_pat_sub (slot_pat_sub.check _ _ _ _ _ _ _ _ hT (args_pat_sub _ _ _) ?_))
  show wpAny _ A.in1 (Builtin.Re.reNamed "re.Pattern.sub" "sub" ["repl", "string", "count"] 2 [.str r u, .str x t] [] >>= _) _ _ s
  refine wpAny_bind (wpAny_of_eq (a := [some (.str r u), some (.str x t), none]) (by rfl) ?_)
  show wpAny _ A.in1 ((pure 0 : Sem Int) >>= _) _ _ s
  refine wpAny_bind (wpAny_pure ?_)
  refine wpAny_bind (wpAny_specialOf (typeIs_str s r u) str_no_call ?_)
  refine wpAny_ite_split (fun h => absurd h Bool.false_ne_true) (fun _ => ?_)
  show wpAny _ A.in1 ((pure (some r) : Sem (Option Str)) >>= _) _ _ s
  refine wpAny_bind (wpAny_pure ?_)
  refine wpAny_bind (wpAny_pure ?_)
  refine wpAny_ite_split (fun h => absurd h Bool.false_ne_true) (fun _ => ?_)
  rw [hr]
  refine wpAny_ite_split (fun _ => ?_) (fun h => absurd rfl h)
  refine wpAny_bind (wpAny_pure ?_)
  refine wpAny_bind (wpAny_holding (wp_target P ?_))
  refine wpAny_ite_split (fun h => absurd h (by decide)) (fun _ => ?_)
  refine wpAny_bind (wpAny_newList ?_)
  have k1 : ∀ b o, s.heap.get? b = some o → (s.heap.push (listOf #[] 0)).get? b = some o := fun b o e => Heap.get?_push_of_some _ e
  have ne : ∀ b o, s.heap.get? b = some o → b ≠ s.heap.objs.size := fun b o e => Nat.ne_of_lt (Heap.lt_size e)
  refine wpAny_pure ⟨plainId_quiet F_plain_sub_loop _, ?_⟩
  have kk : ∀ h' : Heap, (∀ b o, b ≠ s.heap.objs.size → (s.heap.push (listOf #[] 0)).get? b = some o → h'.get? b = some o) → ∀ b o, s.heap.get? b = some o → h'.get? b = some o := fun h' k b o e => k b o (ne b o e) (k1 b o e)
  exact sub_loop (s := { s with heap := s.heap.push (listOf #[] 0) }) hx ms 0 0 false #[] 0 [] (P.at k1) (fun h' k => P.at (kk h' k)) (Heap.get?_push_size _ rfl) .nil (by simpa using hsz) hM (by simpa using hw) fun h' tk t' k => hQ h' tk t' (kk h' k)
end

end

section
open PySem PySem.Sre PyProof.Rows PySem.W

noncomputable def jl (sep : List Nat) : List (List Nat) → List Nat
  | [] => []
  | [r] => r
  | r :: r2 :: rs => r ++ sep ++ jl sep (r2 :: rs)
noncomputable def RowOk (r : List Nat) : Prop := r ≠ [] ∧ ∀ c ∈ r, c = 46 ∨ c = 120
theorem jl_ne {sep : List Nat} : ∀ {rows : List (List Nat)}, rows ≠ [] → (∀ r ∈ rows, RowOk r) → ∃ c t, jl sep rows = c :: t ∧ (c = 46 ∨ c = 120)
  | [], h, _ => absurd rfl h
  | [r], _, h => by
    obtain ⟨h1, h2⟩ := h r List.mem_cons_self
    cases r with
    | nil => exact absurd rfl h1
    | cons c t => exact ⟨c, t, rfl, h2 c List.mem_cons_self⟩
  | r :: r2 :: rs, _, h => by
    obtain ⟨h1, h2⟩ := h r List.mem_cons_self
    cases r with
    | nil => exact absurd rfl h1
    | cons c t => exact ⟨c, t ++ sep ++ jl sep (r2 :: rs), rfl, h2 c List.mem_cons_self⟩
theorem aget (text : Array Nat) (j : Nat) : text.getD j 0 = text.toList.getD j 0 := by
  obtain ⟨l⟩ := text
  simp
theorem getD_drop (T : List Nat) (o i : Nat) : T.getD (o + i) 0 = (T.drop o).getD i 0 := by
  simp [List.getD_eq_getElem?_getD, List.getElem?_drop]
theorem getD_l {a b : List Nat} {i : Nat} (h : i < a.length) : (a ++ b).getD i 0 = a.getD i 0 := by
  simp [List.getD_eq_getElem?_getD, List.getElem?_append_left h]
theorem getD_r {a b : List Nat} {i : Nat} : (a ++ b).getD (a.length + i) 0 = b.getD i 0 := by
  simp [List.getD_eq_getElem?_getD, List.getElem?_append_right]
theorem row_getD {r : List Nat} (h : ∀ c ∈ r, c = 46 ∨ c = 120) {i : Nat} (hi : i < r.length) : r.getD i 0 = 46 ∨ r.getD i 0 = 120 := by
  have : r.getD i 0 = r[i] := by simp [List.getD_eq_getElem?_getD, hi]
  rw [this]; exact h _ (List.getElem_mem hi)
theorem drop_next {T r sep rest : List Nat} {o : Nat} (h : T.drop o = r ++ sep ++ rest) : T.drop (o + r.length + sep.length) = rest := by
  rw [← List.drop_drop, ← List.drop_drop, h, List.append_assoc, List.drop_left, List.drop_left]
theorem drop_len {T X : List Nat} {o : Nat} (h : T.drop o = X) (ho : o ≤ T.length) : T.length = o + X.length := by rw [← h, List.length_drop]; omega

noncomputable def ms2 (w : Nat) : Nat → List (List Nat) → List (Nat × Nat)
  | o, r :: r2 :: rs => (o + r.length, o + r.length + w) :: ms2 w (o + r.length + w) (r2 :: rs)
  | _, _ => []
theorem mat2 {text : Array Nat} {sep : List Nat} (hsep : sep = [10] ∨ sep = [13] ∨ sep = [13, 10]) : ∀ (rows : List (List Nat)) (o : Nat) (must : Bool), rows ≠ [] → (∀ r ∈ rows, RowOk r) → text.toList.drop o = jl sep rows → o ≤ text.toList.length → Mat code2 text o must (ms2 sep.length o rows)
  | [], _, _, h, _, _, _ => absurd rfl h
  | [r], o, must, _, hr, hT, ho => by
    have hlen := drop_len hT ho
    have hr1 := (hr r List.mem_cons_self).2
    refine .nil ((search2_end (by simpa using ho) fun j h1 h2 => ?_).le (by decide))
    obtain ⟨i, rfl⟩ : ∃ i, j = o + i := ⟨j - o, by omega⟩
    rw [aget, getD_drop, hT]
    have h3 : i < r.length := by simp [jl] at hlen; rw [hlen] at h2; omega
    rcases row_getD hr1 h3 with e | e <;> (show isNl (List.getD r i 0) = false; rw [e]; rfl)
  | r :: r2 :: rs, o, must, _, hr, hT, ho => by
    have hlen := drop_len hT ho
    have hr1 := (hr r List.mem_cons_self).2
    have hrs : ∀ r ∈ r2 :: rs, RowOk r := fun q hq => hr q (List.mem_cons_of_mem _ hq)
    obtain ⟨c, t, hc, hc2⟩ := jl_ne (sep := sep) (by simp) hrs
    have hT' : text.toList.drop o = r ++ sep ++ jl sep (r2 :: rs) := hT
    have hnext := drop_next hT'
    have hln : (jl sep (r :: r2 :: rs)).length = r.length + sep.length + (jl sep (r2 :: rs)).length := by simp [jl]; omega
    have hl2 : 0 < (jl sep (r2 :: rs)).length := by rw [hc]; simp
    have hsl : 0 < sep.length := by rcases hsep with rfl | rfl | rfl <;> decide
    have hsz : text.size = text.toList.length := by simp
    have ih := mat2 hsep (r2 :: rs) (o + r.length + sep.length) (o + r.length + sep.length == o + r.length) (by simp) hrs hnext (by omega)
    have hat : ∀ i, text.getD (o + r.length + i) 0 = (sep ++ jl sep (r2 :: rs)).getD i 0 := fun i => by
      rw [aget, Nat.add_assoc, getD_drop, hT', List.append_assoc, getD_r]
    have hno : ∀ j, o ≤ j → j < o + r.length → isNl (text.getD j 0) = false := fun j h1 h2 => by
      obtain ⟨i, rfl⟩ : ∃ i, j = o + i := ⟨j - o, by omega⟩
      rw [aget, getD_drop, hT', List.append_assoc, getD_l (by omega)]
      rcases row_getD hr1 (show i < r.length by omega) with e | e <;> (rw [e]; rfl)
    have h0 := hat 0
    have h1 := hat 1
    rw [Nat.add_zero] at h0
    refine .cons ?_ ih
    have key : ∀ e', (if text.getD (o + r.length) 0 = 13 ∧ o + r.length + 1 < text.size ∧ text.getD (o + r.length + 1) 0 = 10 then o + r.length + 2 else o + r.length + 1) = e' → isNl (text.getD (o + r.length) 0) = true →
        EP 900000 (forSearch code2 text 0 o text.size must) (Hit (o + r.length) e') := fun e' he hy => by
      rw [← he]
      exact (search2 (by omega) (by omega) hno hy).le (by decide)
    rcases hsep with rfl | rfl | rfl
    · refine key _ ?_ (by rw [h0]; rfl)
      rw [if_neg (by rw [h0]; simp)]; rfl
    · refine key _ ?_ (by rw [h0]; rfl)
      rw [if_neg]; · rfl
      rw [h1, hc]
      rintro ⟨_, _, z⟩
      have z' : c = 10 := z
      omega
    · refine key _ ?_ (by rw [h0]; rfl)
      rw [if_pos]; · rfl
      rw [h0, h1]
      exact ⟨rfl, by simp at hln hlen ⊢; omega, rfl⟩

end

section
open PySem PySem.Sre PyProof.Rows PySem.W

noncomputable def fl (ps : List Str) : List Nat := ps.flatMap fun p => p.cps.toList
theorem join_fl (ps : List Str) : (Txt.join ⟨#[]⟩ ps).cps.toList = fl ps := by
  have key : ∀ (ps : List Str) (acc : Array Nat), (ps.foldl (fun acc p => acc ++ (#[] : Array Nat) ++ p.cps) acc).toList = acc.toList ++ fl ps := by
    intro ps
    induction ps with
    | nil => intro acc; simp [fl]
    | cons p ps ih => intro acc; rw [List.foldl_cons, ih]; simp [fl]
  show ((ps.drop 1).foldl (fun acc p => acc ++ (#[] : Array Nat) ++ p.cps) (ps.headD Str.empty).cps).toList = _
  cases ps with
  | nil => rfl
  | cons p ps => rw [List.drop_one, List.tail_cons, key]; simp [fl]
theorem cut_list (x : Str) (b e : Nat) : (cut x b e).cps.toList = (x.cps.toList.drop b).take (e - b) := by simp [cut]

theorem pcs2 {x : Str} {sep : List Nat} : ∀ (rows : List (List Nat)) (o : Nat), rows ≠ [] → (∀ r ∈ rows, RowOk r) → x.cps.toList.drop o = jl sep rows → o ≤ x.cps.toList.length → fl (pcs x ⟨#[13, 10]⟩ o (ms2 sep.length o rows)) = jl [13, 10] rows
  | [], _, h, _, _, _ => absurd rfl h
  | [r], o, _, hr, hT, ho => by
    have hlen := drop_len hT ho
    have h0 : 0 < r.length := List.length_pos_iff.mpr (hr r List.mem_cons_self).1
    have hl : (jl sep [r]).length = r.length := rfl
    have hsz : x.cps.size = x.cps.toList.length := by simp
    show fl (if o < x.cps.size then [cut x o x.cps.size] else []) = r
    rw [if_pos (by omega)]
    show (cut x o x.cps.size).cps.toList ++ [] = r
    rw [cut_list, hT, List.append_nil]
    exact List.take_of_length_le (by rw [hl]; omega)
  | r :: r2 :: rs, o, _, hr, hT, ho => by
    have hlen := drop_len hT ho
    have h0 : 0 < r.length := List.length_pos_iff.mpr (hr r List.mem_cons_self).1
    have hT' : x.cps.toList.drop o = r ++ sep ++ jl sep (r2 :: rs) := hT
    have hnext := drop_next hT'
    have hln : (jl sep (r :: r2 :: rs)).length = r.length + sep.length + (jl sep (r2 :: rs)).length := by simp [jl]; omega
    have ih := pcs2 (r2 :: rs) (o + r.length + sep.length) (by simp) (fun q hq => hr q (List.mem_cons_of_mem _ hq)) hnext (by omega)
    show fl ((if o < o + r.length then [cut x o (o + r.length)] else []) ++ ⟨#[13, 10]⟩ :: pcs x ⟨#[13, 10]⟩ (o + r.length + sep.length) (ms2 sep.length (o + r.length + sep.length) (r2 :: rs))) = r ++ [13, 10] ++ jl [13, 10] (r2 :: rs)
    rw [if_pos (by omega)]
    show (cut x o (o + r.length)).cps.toList ++ ([13, 10] ++ fl (pcs x ⟨#[13, 10]⟩ (o + r.length + sep.length) (ms2 sep.length (o + r.length + sep.length) (r2 :: rs)))) = _
    rw [ih, cut_list, hT', List.append_assoc, show o + r.length - o = r.length by omega, List.take_left, List.append_assoc]

/-- the dots at the lines' beginnings -/
noncomputable def ms1 : Nat → List (List Nat) → List (Nat × Nat)
  | _, [] => []
  | o, r :: rs => (if r.head? = some 46 then [(o, o + 1)] else []) ++ ms1 (o + r.length + 2) rs
noncomputable def dd (r : List Nat) : List Nat := if r.head? = some 46 then 46 :: r else r
theorem jl_cons {sep r : List Nat} {rs : List (List Nat)} (h : rs ≠ []) : jl sep (r :: rs) = r ++ sep ++ jl sep rs := by
  cases rs with
  | nil => exact absurd rfl h
  | cons r2 rs => rfl

theorem at1_no {text : Array Nat} {j : Nat} (h : j ≠ 0) (hp : text.getD (j - 1) 0 ≠ 10) : at1 text j = false := by
  unfold at1
  rw [beq_eq_false_iff_ne.mpr h, beq_eq_false_iff_ne.mpr hp]; rfl
theorem at1_no2 {text : Array Nat} {j : Nat} (hp : text.getD j 0 ≠ 46) : at1 text j = false := by
  unfold at1
  rw [beq_eq_false_iff_ne.mpr hp, Bool.and_false]

/-- within a row and its end nothing else is found -/
theorem row_no {text : Array Nat} {r rest : List Nat} {o : Nat} (hr : ∀ c ∈ r, c = 46 ∨ c = 120) (hT : text.toList.drop o = r ++ rest) (hrest : rest = [] ∨ ∃ t, rest = 13 :: 10 :: t) : ∀ j, o + 1 ≤ j → j < o + r.length + 2 → j < text.size → at1 text j = false := by
  intro j h1 h2 h3
  obtain ⟨i, rfl⟩ : ∃ i, j = o + i := ⟨j - o, by omega⟩
  have hg : ∀ k, text.getD (o + k) 0 = (r ++ rest).getD k 0 := fun k => by rw [aget, getD_drop, hT]
  by_cases hi : i - 1 < r.length
  · refine at1_no (by omega) ?_
    rw [show o + i - 1 = o + (i - 1) by omega, hg, getD_l hi]
    rcases row_getD hr hi with e | e <;> (rw [e]; decide)
  · have : i = r.length + 1 := by omega
    subst this
    refine at1_no2 ?_
    rw [hg, getD_r]
    rcases hrest with rfl | ⟨t, rfl⟩
    · simp
    · show (10 : Nat) ≠ 46; decide
theorem find1 {text : Array Nat} {s e : Nat} {must : Bool} (hsz : text.size ≤ 100000) (h : s ≤ e) (he : at1 text e = true) (hno : ∀ j, s ≤ j → j < e → at1 text j = false) : EP 900000 (forSearch code1 text 0 s text.size must) (Hit e (e + 1)) := by
  have hlt : e < text.size := by
    simp only [at1, Bool.and_eq_true, decide_eq_true_eq] at he; exact he.1.2
  obtain ⟨seen, q⟩ := search1 text s must (by omega)
  rw [q]
  exact ((scan1 (e - s) s must true _ seen (by omega) (by omega) hno).1 he).le (by omega)
theorem miss1all {text : Array Nat} {s : Nat} {must : Bool} (hsz : text.size ≤ 100000) (h : s ≤ text.size) (hno : ∀ j, s ≤ j → j < text.size → at1 text j = false) : EP 900000 (forSearch code1 text 0 s text.size must) Miss := by
  by_cases q : s = text.size
  · exact (search1_end text s must q).le (by decide)
  · obtain ⟨seen, e⟩ := search1 text s must (by omega)
    rw [e]
    exact ((scan1 (text.size - s) s must true _ seen (by omega) (by omega) hno).2 rfl).le (by omega)
theorem mat1 {text : Array Nat} (hsz : text.size ≤ 100000) : ∀ (rows : List (List Nat)) (o s : Nat) (must : Bool), (∀ r ∈ rows, RowOk r) → (rows ≠ [] → text.toList.drop o = jl [13, 10] rows ∧ o ≤ text.toList.length ∧ (o = 0 ∨ text.getD (o - 1) 0 = 10)) → s ≤ text.size →
    (∀ j, s ≤ j → j < o → j < text.size → at1 text j = false) → (rows = [] → text.size ≤ o) → s ≤ o → Mat code1 text s must (ms1 o rows)
  | [], o, s, must, _, _, hs, hno, hend, hso => .nil (miss1all hsz hs fun j h1 h2 => hno j h1 (by have := hend rfl; omega) h2)
  | r :: rs, o, s, must, hr, hT, hs, hno, hend, hso => by
    obtain ⟨hT, ho, hbol⟩ := hT (by simp)
    obtain ⟨hrne, hr1⟩ := hr r List.mem_cons_self
    have h0 : 0 < r.length := List.length_pos_iff.mpr hrne
    have hlen := drop_len hT ho
    have hszl : text.size = text.toList.length := by simp
    have hrs : ∀ q ∈ rs, RowOk q := fun q hq => hr q (List.mem_cons_of_mem _ hq)
    obtain ⟨rest, hTr, hrest, hnext⟩ : ∃ rest, text.toList.drop o = r ++ rest ∧ (rest = [] ∨ ∃ t, rest = 13 :: 10 :: t) ∧
        ((rs ≠ [] → text.toList.drop (o + r.length + 2) = jl [13, 10] rs ∧ o + r.length + 2 ≤ text.toList.length ∧ (o + r.length + 2 = 0 ∨ text.getD (o + r.length + 2 - 1) 0 = 10)) ∧ (rs = [] → text.size ≤ o + r.length + 2)) := by
      cases rs with
      | nil => exact ⟨[], by rw [hT]; simp [jl], .inl rfl, fun h => absurd rfl h, fun _ => by have : (jl [13, 10] [r]).length = r.length := rfl; omega⟩
      | cons r2 rs =>
        have hT' : text.toList.drop o = r ++ [13, 10] ++ jl [13, 10] (r2 :: rs) := hT
        have hl : (jl [13, 10] (r :: r2 :: rs)).length = r.length + 2 + (jl [13, 10] (r2 :: rs)).length := by simp [jl]; omega
        refine ⟨[13, 10] ++ jl [13, 10] (r2 :: rs), by rw [hT', List.append_assoc], .inr ⟨_, rfl⟩, fun _ => ⟨drop_next hT', by omega, .inr ?_⟩, fun h => by cases h⟩
        rw [show o + r.length + 2 - 1 = o + (r.length + 1) by omega, aget, getD_drop, hT', List.append_assoc, getD_r]; rfl
    have hin := row_no hr1 hTr hrest
    have ho0 : text.getD o 0 = r.getD 0 0 := by
      have := getD_drop text.toList o 0
      rw [Nat.add_zero] at this
      rw [aget, this, hTr, getD_l h0]
    by_cases hd : r.head? = some 46
    · have hms : ms1 o (r :: rs) = (o, o + 1) :: ms1 (o + r.length + 2) rs := by simp [ms1, hd]
      rw [hms]
      have hat : at1 text o = true := by
        have h46 : text.getD o 0 = 46 := by
          rw [ho0]; cases r with | nil => exact absurd rfl hrne | cons c t => simp at hd; subst hd; rfl
        have hjl : (jl [13, 10] (r :: rs)).length > 0 := by rw [← hT, hTr]; simp; omega
        unfold at1
        rw [h46, decide_eq_true (show o < text.size by omega)]
        rcases hbol with q | q
        · rw [q]; rfl
        · rw [q]; simp
      refine .cons (find1 hsz hso hat fun j h1 h2 => hno j h1 h2 ?_) (mat1 hsz rs (o + r.length + 2) (o + 1) _ hrs hnext.1 ?_ hin hnext.2 (by omega))
      · have hjl : (jl [13, 10] (r :: rs)).length > 0 := by rw [← hT, hTr]; simp; omega
        omega
      · have hjl : (jl [13, 10] (r :: rs)).length > 0 := by rw [← hT, hTr]; simp; omega
        omega
    · have hms : ms1 o (r :: rs) = ms1 (o + r.length + 2) rs := by simp [ms1, hd]
      rw [hms]
      refine mat1 hsz rs (o + r.length + 2) s must hrs hnext.1 hs (fun j h1 h2 h3 => ?_) hnext.2 (by omega)
      rcases Nat.lt_trichotomy j o with q | q | q
      · exact hno j h1 q h3
      · subst q
        refine at1_no2 ?_
        rw [ho0]
        cases r with | nil => exact absurd rfl hrne | cons c t => intro z; apply hd; have z' : c = 46 := z; rw [z']; rfl
      · exact hin j q h2 h3
/-- from d on, the pieces with the dots doubled -/
theorem pcs1 {x : Str} : ∀ (rows : List (List Nat)) (o d : Nat), (∀ r ∈ rows, RowOk r) → (rows ≠ [] → x.cps.toList.drop o = jl [13, 10] rows ∧ o ≤ x.cps.toList.length) → d ≤ o → d ≤ x.cps.toList.length → (rows = [] → x.cps.toList.length ≤ o) →
    fl (pcs x ⟨#[46, 46]⟩ d (ms1 o rows)) = (x.cps.toList.drop d).take (o - d) ++ jl [13, 10] (rows.map dd)
  | [], o, d, _, _, hdo, hd, hend => by
    have hsz : x.cps.size = x.cps.toList.length := by simp
    have he := hend rfl
    show fl (if d < x.cps.size then [cut x d x.cps.size] else []) = _
    rw [List.take_of_length_le (by rw [List.length_drop]; omega)]
    by_cases q : d < x.cps.size
    · rw [if_pos q]
      show (cut x d x.cps.size).cps.toList ++ [] = _
      rw [cut_list, List.take_of_length_le (by rw [List.length_drop]; omega)]; simp [jl]
    · rw [if_neg q]
      have : x.cps.toList.drop d = [] := List.drop_eq_nil_of_le (by omega)
      rw [this]; rfl
  | r :: rs, o, d, hr, hT, hdo, hd, hend => by
    obtain ⟨hT, ho⟩ := hT (by simp)
    obtain ⟨hrne, hr1⟩ := hr r List.mem_cons_self
    have h0 : 0 < r.length := List.length_pos_iff.mpr hrne
    have hlen := drop_len hT ho
    have hsz : x.cps.size = x.cps.toList.length := by simp
    have hrs : ∀ q ∈ rs, RowOk q := fun q hq => hr q (List.mem_cons_of_mem _ hq)
    have hne : (rs = [] ∧ x.cps.toList.length = o + r.length) ∨ (rs ≠ [] ∧ x.cps.toList.drop o = r ++ [13, 10] ++ jl [13, 10] rs ∧ x.cps.toList.length = o + (r.length + 2 + (jl [13, 10] rs).length)) := by
      cases rs with
      | nil => exact .inl ⟨rfl, by rw [hlen]; rfl⟩
      | cons r2 rs => exact .inr ⟨by simp, hT, by rw [hlen]; simp [jl]; omega⟩
    have hnext : rs ≠ [] → x.cps.toList.drop (o + r.length + 2) = jl [13, 10] rs ∧ o + r.length + 2 ≤ x.cps.toList.length := fun h => by
      rcases hne with ⟨e, _⟩ | ⟨_, e, e2⟩
      · exact absurd e h
      · exact ⟨drop_next e, by omega⟩
    have hend' : rs = [] → x.cps.toList.length ≤ o + r.length + 2 := fun h => by
      rcases hne with ⟨_, e⟩ | ⟨e, _⟩
      · omega
      · exact absurd h e
    -- what lies from o on
    have hseg : ∀ k, k ≤ r.length → (x.cps.toList.drop (o + k)).take (o + r.length + 2 - (o + k)) ++ jl [13, 10] (rs.map dd) = jl [13, 10] (r.drop k :: rs.map dd) := fun k hk => by
      rcases hne with ⟨e, e2⟩ | ⟨e, e1, e2⟩
      · subst e
        have : x.cps.toList.drop o = r := hT
        rw [← List.drop_drop, this, List.take_of_length_le (by rw [List.length_drop]; omega)]
        simp [jl]
      · have hmne : rs.map dd ≠ [] := by simpa using e
        rw [jl_cons hmne, ← List.drop_drop, e1, List.append_assoc, List.drop_append_of_le_length hk, show o + r.length + 2 - (o + k) = (r.drop k).length + 2 by rw [List.length_drop]; omega, List.take_append]
        simp
        exact List.take_of_length_le (by simp)
    by_cases hd46 : r.head? = some 46
    · have hms : ms1 o (r :: rs) = (o, o + 1) :: ms1 (o + r.length + 2) rs := by simp [ms1, hd46]
      rw [hms]
      have ih := pcs1 rs (o + r.length + 2) (o + 1) hrs hnext (by omega) (by omega) hend'
      show fl ((if d < o then [cut x d o] else []) ++ ⟨#[46, 46]⟩ :: pcs x ⟨#[46, 46]⟩ (o + 1) (ms1 (o + r.length + 2) rs)) = _
      have h1 : fl ((if d < o then [cut x d o] else []) ++ ⟨#[46, 46]⟩ :: pcs x ⟨#[46, 46]⟩ (o + 1) (ms1 (o + r.length + 2) rs)) = (x.cps.toList.drop d).take (o - d) ++ ([46, 46] ++ fl (pcs x ⟨#[46, 46]⟩ (o + 1) (ms1 (o + r.length + 2) rs))) := by
        by_cases q : d < o
        · rw [if_pos q]
          show (cut x d o).cps.toList ++ _ = _
          rw [cut_list]; rfl
        · rw [if_neg q, show o - d = 0 by omega, List.take_zero]; rfl
      rw [h1, ih, hseg 1 h0]
      congr 1
      have hdr : dd r = 46 :: r := by simp [dd, hd46]
      cases r with
      | nil => exact absurd rfl hrne
      | cons c t =>
        simp at hd46; subst hd46
        show [46, 46] ++ jl [13, 10] (t :: rs.map dd) = jl [13, 10] (dd (46 :: t) :: rs.map dd)
        rw [hdr]
        cases rs.map dd <;> simp [jl]
    · have hms : ms1 o (r :: rs) = ms1 (o + r.length + 2) rs := by simp [ms1, hd46]
      rw [hms]
      have ih := pcs1 rs (o + r.length + 2) d hrs hnext (by omega) hd hend'
      rw [ih]
      have hdr : dd r = r := by simp [dd, hd46]
      rw [List.map_cons, hdr]
      have h2 := hseg 0 (Nat.zero_le _)
      rw [List.drop_zero, Nat.add_zero] at h2
      rw [← h2, ← List.append_assoc]
      congr 1
      rw [show o + r.length + 2 - d = (o - d) + (o + r.length + 2 - o) by omega, List.take_add, List.drop_drop, show d + (o - d) = o by omega]
      rfl

end

section
open PySem PySem.Sre PyProof.Rows PySem.W PySem.StrLaws PySem.Builtin PySem.Builtin.Str

theorem join_jl (sep : Str) : ∀ ps : List Str, (Txt.join sep ps).cps.toList = jl sep.cps.toList (ps.map fun p => p.cps.toList) := by
  have key : ∀ (ps : List Str) (acc : Array Nat) , ps ≠ [] → (ps.foldl (fun acc p => acc ++ sep.cps ++ p.cps) acc).toList = acc.toList ++ sep.cps.toList ++ jl sep.cps.toList (ps.map fun p => p.cps.toList) := by
    intro ps
    induction ps with
    | nil => intro acc h; exact absurd rfl h
    | cons p ps ih =>
      intro acc _
      rw [List.foldl_cons]
      cases ps with
      | nil => simp [jl]
      | cons q ps => rw [ih _ (by simp)]; simp [jl]
  intro ps
  show ((ps.drop 1).foldl (fun acc p => acc ++ sep.cps ++ p.cps) (ps.headD Str.empty).cps).toList = _
  cases ps with
  | nil => rfl
  | cons p ps =>
    rw [List.drop_one, List.tail_cons]
    cases ps with
    | nil => simp [jl]
    | cons q ps => rw [key _ _ (by simp)]; simp [jl]

noncomputable abbrev crlf : Str := ⟨#[13, 10]⟩
noncomputable def ct : Nat → List (List Nat) → List Nat
  | o, r :: r2 :: rs => (o + r.length) :: ct (o + r.length + 2) (r2 :: rs)
  | _, _ => []
section
variable {z : Str} {limit : Nat}
noncomputable def R (z : Str) (limit : Nat) (l : List Nat) (st : Array Nat × Nat) : Array Nat × Nat := (forIn l st (occBody z crlf z.length limit)).run
theorem R_nil (st) : R z limit [] st = st := rfl
theorem R_cons (i : Nat) (l : List Nat) (st) : R z limit (i :: l) st = R z limit l (if ((st.fst.size < limit ∧ st.snd ≤ i) ∧ i + crlf.length ≤ z.length) ∧ subAt z crlf i = true then (st.fst.push i, i + crlf.length) else (st.fst, st.snd)) := by
  unfold R
  rw [List.forIn_cons]
  unfold occBody
  split <;> rfl
theorem sub_iff (i : Nat) : subAt z crlf i = true ↔ (z.cps.toList.drop i).take 2 = [13, 10] := by
  rw [subAt_eq]
  show ((z.cps.toList.drop i).take 2 == [13, 10]) = true ↔ _
  exact beq_iff_eq
theorem R_skip : ∀ (l l' : List Nat) (st), (∀ i ∈ l, ¬ (z.cps.toList.drop i).take 2 = [13, 10]) → R z limit (l ++ l') st = R z limit l' st
  | [], l', st, _ => rfl
  | i :: l, l', st, h => by
    rw [List.cons_append, R_cons, if_neg (fun q => h i List.mem_cons_self ((sub_iff i).mp q.2))]
    exact R_skip l l' st fun j hj => h j (List.mem_cons_of_mem _ hj)
theorem getD_take0 {L : List Nat} {t : List Nat} (h : L.take 2 = [13, 10]) : L.getD 0 0 = 13 ∧ L.getD 1 0 = 10 := by
  match L, h with
  | [], h => simp at h
  | [a], h => simp at h
  | a :: b :: L, h => simp at h; simp [h.1, h.2]
theorem occ_rows : ∀ (rows : List (List Nat)) (o : Nat) (acc : Array Nat) (f : Nat), rows ≠ [] → (∀ r ∈ rows, RowOk r) → z.cps.toList.drop o = jl [13, 10] rows → o ≤ z.length → f ≤ o → acc.size + rows.length ≤ limit →
    (R z limit (List.range' o (z.length + 1 - o)) (acc, f)).1.toList = acc.toList ++ ct o rows
  | [], _, _, _, h, _, _, _, _, _ => absurd rfl h
  | [r], o, acc, f, _, hr, hT, ho, hf, hl => by
    have hr1 := (hr r List.mem_cons_self).2
    have := R_skip (z := z) (limit := limit) (List.range' o (z.length + 1 - o)) [] (acc, f) (fun i hi q => by
      obtain ⟨h1, h2⟩ := List.mem_range'_1.mp hi
      obtain ⟨k, rfl⟩ : ∃ k, i = o + k := ⟨i - o, by omega⟩
      rw [← List.drop_drop, hT] at q
      have h3 := (getD_take0 (t := []) q).1
      rw [show (0 : Nat) = 0 + 0 from rfl] at h3
      have h4 : (List.drop k r).getD 0 0 = r.getD k 0 := by have := getD_drop r k 0; rw [Nat.add_zero] at this; exact this.symm
      have h5 : r.getD k 0 = 13 := by rw [← h4]; exact h3
      by_cases hk : k < r.length
      · rcases row_getD hr1 hk with e | e <;> omega
      · have : r.getD k 0 = 0 := by simp [List.getD_eq_getElem?_getD, List.getElem?_eq_none (Nat.le_of_not_lt hk)]
        omega)
    rw [List.append_nil] at this
    rw [this, R_nil]
    simp [ct]
  | r :: r2 :: rs, o, acc, f, _, hr, hT, ho, hf, hl => by
    have hr1 := (hr r List.mem_cons_self).2
    have hzl : z.length = z.cps.toList.length := by simp [Str.length]
    have hlen := drop_len hT (by omega)
    have hT' : z.cps.toList.drop o = r ++ [13, 10] ++ jl [13, 10] (r2 :: rs) := hT
    have hln : (jl [13, 10] (r :: r2 :: rs)).length = r.length + 2 + (jl [13, 10] (r2 :: rs)).length := by simp [jl]; omega
    have hnext : z.cps.toList.drop (o + r.length + 2) = jl [13, 10] (r2 :: rs) := drop_next hT'
    have ih := occ_rows (r2 :: rs) (o + r.length + 2) (acc.push (o + r.length)) (o + r.length + 2) (by simp) (fun q hq => hr q (List.mem_cons_of_mem _ hq)) hnext (by omega) (Nat.le_refl _) (by simp at hl ⊢; omega)
    have hsplit : List.range' o (z.length + 1 - o) = List.range' o r.length ++ (o + r.length) :: (o + r.length + 1) :: List.range' (o + r.length + 2) (z.length + 1 - (o + r.length + 2)) := by
      have e1 : z.length + 1 - o = r.length + (2 + (z.length + 1 - (o + r.length + 2))) := by omega
      rw [e1, ← List.range'_append_1, ← List.range'_append_1]
      rfl
    rw [hsplit, R_skip _ _ _ (fun i hi q => by
      obtain ⟨h1, h2⟩ := List.mem_range'_1.mp hi
      obtain ⟨k, rfl⟩ : ∃ k, i = o + k := ⟨i - o, by omega⟩
      rw [← List.drop_drop, hT', List.append_assoc] at q
      have h3 := (getD_take0 (t := []) q).1
      have h4 := getD_drop (r ++ ([13, 10] ++ jl [13, 10] (r2 :: rs))) k 0
      rw [Nat.add_zero] at h4
      rw [← h4, getD_l (by omega)] at h3
      rcases row_getD hr1 (show k < r.length by omega) with e | e <;> omega)]
    have hy : (z.cps.toList.drop (o + r.length)).take 2 = [13, 10] := by
      rw [← List.drop_drop, hT', List.append_assoc, List.drop_left]; rfl
    rw [R_cons, if_pos ⟨⟨⟨by simp at hl ⊢; omega, by show f ≤ o + r.length; omega⟩, by show o + r.length + 2 ≤ z.length; omega⟩, (sub_iff _).mpr hy⟩]
    rw [R_cons, if_neg (fun q => by have h1 := q.1.1.2; have h2 : o + r.length + 2 ≤ o + r.length + 1 := h1; omega)]
    show (R z limit (List.range' (o + r.length + 2) (z.length + 1 - (o + r.length + 2))) (acc.push (o + r.length), o + r.length + 2)).1.toList = _
    rw [ih]
    simp [ct]
theorem parts_rows : ∀ (rows : List (List Nat)) (o : Nat), rows ≠ [] → z.cps.toList.drop o = jl [13, 10] rows → o ≤ z.length → partsFrom z 2 o (ct o rows) = rows.map fun r => (⟨r.toArray⟩ : Str)
  | [], _, h, _, _ => absurd rfl h
  | [r], o, _, hT, ho => by
    have hzl : z.length = z.cps.toList.length := by simp [Str.length]
    have hlen := drop_len hT (by omega)
    show [strSub z o z.length] = [⟨r.toArray⟩]
    congr 1
    apply Str.ext'
    apply Array.toList_inj.mp
    rw [strSub_toList, hT]
    exact List.take_of_length_le (by omega)
  | r :: r2 :: rs, o, _, hT, ho => by
    have hzl : z.length = z.cps.toList.length := by simp [Str.length]
    have hlen := drop_len hT (by omega)
    have hT' : z.cps.toList.drop o = r ++ [13, 10] ++ jl [13, 10] (r2 :: rs) := hT
    have hln : (jl [13, 10] (r :: r2 :: rs)).length = r.length + 2 + (jl [13, 10] (r2 :: rs)).length := by simp [jl]; omega
    have hnext : z.cps.toList.drop (o + r.length + 2) = jl [13, 10] (r2 :: rs) := drop_next hT'
    have ih := parts_rows (r2 :: rs) (o + r.length + 2) (by simp) hnext (by omega)
    show strSub z o (o + r.length) :: partsFrom z 2 (o + r.length + 2) (ct (o + r.length + 2) (r2 :: rs)) = _
    rw [ih, List.map_cons]
    congr 1
    apply Str.ext'
    apply Array.toList_inj.mp
    rw [strSub_toList, hT', List.append_assoc, show o + r.length - o = r.length by omega, List.take_left]
theorem jl_len {sep : List Nat} : ∀ {rows : List (List Nat)}, (∀ r ∈ rows, RowOk r) → rows.length ≤ (jl sep rows).length
  | [], _ => Nat.zero_le _
  | [r], h => List.length_pos_iff.mpr (h r List.mem_cons_self).1
  | r :: r2 :: rs, h => by
    have ih := jl_len (sep := sep) (rows := r2 :: rs) fun q hq => h q (List.mem_cons_of_mem _ hq)
    have h0 : 0 < r.length := List.length_pos_iff.mpr (h r List.mem_cons_self).1
    simp only [jl, List.length_append, List.length_cons] at ih ⊢
    omega
theorem kind_ge (x : Str) : 1 ≤ Str.strKind x := by
  unfold Str.strKind
  split
  · decide
  · split <;> decide
theorem split_rows {rows : List (List Nat)} (hne : rows ≠ []) (hr : ∀ r ∈ rows, RowOk r) (h : z.cps.toList = jl [13, 10] rows) : Txt.split z crlf = rows.map fun r => (⟨r.toArray⟩ : Str) := by
  have hzl : z.length = z.cps.toList.length := by simp [Str.length]
  have hl := jl_len (sep := [13, 10]) hr
  have hocc : occurrences z crlf 0 z.length (z.length + 1) = ct 0 rows := by
    rw [occ_eq]
    have := occ_rows (z := z) (limit := z.length + 1) rows 0 #[] 0 hne hr (by rw [List.drop_zero]; exact h) (Nat.zero_le _) (Nat.le_refl _) (by rw [hzl, h]; simp; omega)
    simpa [R] using this
  have hp := parts_rows (z := z) rows 0 hne (by rw [List.drop_zero]; exact h) (Nat.zero_le _)
  have hk2 : Str.strKind crlf = 1 := by decide +kernel
  have hkn : ¬ (Str.strKind z < Str.strKind crlf) := by rw [hk2]; have := kind_ge z; omega
  match rows, hne with
  | [r], _ =>
    have hz : z = ⟨r.toArray⟩ := by apply Str.ext'; apply Array.toList_inj.mp; rw [h]; rfl
    unfold Txt.split
    split
    · rw [hz]; rfl
    · rw [hocc]; show (if (true = true) then [z] else _) = _; rw [if_pos rfl, hz]; rfl
  | r :: r2 :: rs, _ =>
    unfold Txt.split
    rw [if_neg, hocc, if_neg (by simp [ct]), partsBetween_eq]
    · exact hp
    · rw [Bool.or_eq_true, decide_eq_true_eq, decide_eq_true_eq]
      rintro (q | q)
      · have : crlf.length = 2 := rfl
        simp at hl
        have h2 : z.length = (jl [13, 10] (r :: r2 :: rs)).length := by rw [hzl, h]
        omega
      · exact hkn q
end

end

section
open PySem PySem.Calls PyProof.Rows PySem.W PySem.Builtin PySem.Builtin.Str
section
variable {Γ : Gam} {n : Nat} {env : Env} {st : St} {Q : V → St → Prop}
theorem VRs.strs {p w ρ φ h} : ∀ {xs : List Str} {as : List Value}, VRs p w ρ φ h (xs.map V.str) as → StrsAre as xs
  | [], _, .nil => .nil
  | x :: xs, _, .cons y r => by cases y with | str _ t => exact .cons x t (VRs.strs r)
theorem VRs.of_strs {p w ρ φ h} : ∀ (l : List (Str × Tok)), VRs p w ρ φ h ((l.map (·.1)).map V.str) (strValues l)
  | [] => .nil
  | (x, t) :: l => .cons (.str x t) (VRs.of_strs l)
theorem Cal.join {sep : Str} {v : V} {xs : List Str} (hl : st.lst v (xs.map .str)) (hsep : sep.length ≤ 16) (hw : (xs.map (·.length)).sum + xs.length ≤ 1048576) (h : Q (.str (Txt.join sep xs)) st) : Cal Γ n env st (.val (.builtin "str.join")) [.str sep, v] Q := by
  intro A s ρ φ f as hA r hf hv
  obtain rfl := hf.val_inv
  cases hv with | cons h1 h2 => cases h2 with | cons h2 h3 =>
    cases h3
    obtain ⟨b, its, m, rfl, e, g⟩ := r.lst hl h2
    cases h1
    exact join_listW (isList_of e) g.strs hsep hw fun t' k => Post.tok r (.str _ _) h
theorem Cal.strip {x y : Str} (hs : x.length ≤ 100000) (h : Q (.str (Txt.stripChars x y)) st) : Cal Γ n env st (.val (.builtin "str.strip")) [.str x, .str y] Q := by
  intro A s ρ φ f as hA r hf hv
  obtain rfl := hf.val_inv
  cases hv with | cons h1 h2 => cases h2 with | cons h2 h3 =>
    cases h3; cases h1; cases h2
    exact SC.stripChars (hsz := by rw [sizeLine_eq]; omega) fun t' k => Post.tok r (.str _ _) h
theorem Cal.split {x y : Str} (hy : (y.length == 0) = false) (h1 : (decide (x.length < y.length) || decide (Str.strKind x < Str.strKind y)) = false) (hf : (occurrences x y 0 x.length (x.length + 1)).isEmpty = false) (hs : x.length ≤ 100000)
    (hs2 : (partsBetween x (occurrences x y 0 x.length (x.length + 1)) y.length).length ≤ 1000) (h : Q (.list ((partsBetween x (occurrences x y 0 x.length (x.length + 1)) y.length).map .str)) st) : Cal Γ n env st (.val (.builtin "str.split")) [.str x, .str y] Q := by
  intro A s ρ φ f as hA r hf' hv
  obtain rfl := hf'.val_inv
  cases hv with | cons g1 g2 => cases g2 with | cons g2 g3 =>
    cases g3; cases g1 with | str _ t => cases g2 with | str _ u =>
    refine call_meets F.slot_str_split (typeIs_str _ _ _) F.entry_str_split (F.args_str_split_2 _ _) (meets_str_split_sep x y t u h1 hy hf (by rw [sizeLine_eq]; omega) (by rw [sizeLine_eq]; omega)) ?_
    show wants _ _ _ { s with toks := _, heap := s.heap.push { cls := .type "list", data := .seq (strsFrom s.toks (partsBetween x (occurrences x y 0 x.length (x.length + 1)) y.length)).toArray } }
    rw [strsFrom_eq]
    have ht := numbered_texts s.toks (partsBetween x (occurrences x y 0 x.length (x.length + 1)) y.length)
    generalize numbered s.toks (partsBetween x (occurrences x y 0 x.length (x.length + 1)) y.length) = l at ht
    have k : ∀ b o, s.heap.get? b = some o → (s.heap.push (listOf (strValues l).toArray 0)).get? b = some o := fun b o e => Heap.get?_push_of_some _ e
    have hfr := r.fresh (size_none s.heap)
    exact Post.mk (Ext.grow k) (r.grow (tk := _) k) (.list (n := 0) (Heap.get?_push_size _ rfl) hfr.1 hfr.2 (by rw [← ht]; exact VRs.of_strs l)) h
theorem Cal.splitRows {z : Str} {rows : List (List Nat)} (hne : 2 ≤ rows.length) (hr : ∀ r ∈ rows, RowOk r) (hz : z.cps.toList = jl [13, 10] rows) (hs : z.length ≤ 100000) (hrl : rows.length ≤ 1000) (h : Q (.list (rows.map fun r => V.str ⟨r.toArray⟩)) st) :
    Cal Γ n env st (.val (.builtin "str.split")) [.str z, .str crlf] Q := by
  have hsp := split_rows (z := z) (by intro e; rw [e] at hne; simp at hne) hr hz
  have hl := jl_len (sep := [13, 10]) hr
  have hzl : z.length = (jl [13, 10] rows).length := by rw [← hz]; simp [Str.length]
  have h1 : (decide (z.length < crlf.length) || decide (Str.strKind z < Str.strKind crlf)) = false := by
    rw [Bool.or_eq_false_iff, decide_eq_false_iff_not, decide_eq_false_iff_not]
    have e1 : crlf.length = 2 := rfl
    have hk2 : Str.strKind crlf = 1 := by decide +kernel
    exact ⟨by omega, by rw [hk2]; have := kind_ge z; omega⟩
  have hocc : occurrences z crlf 0 z.length (z.length + 1) = ct 0 rows := by
    rw [StrLaws.occ_eq]
    have := occ_rows (z := z) (limit := z.length + 1) rows 0 #[] 0 (by intro e; rw [e] at hne; simp at hne) hr (by rw [List.drop_zero]; exact hz) (Nat.zero_le _) (Nat.le_refl _) (by simp; omega)
    simpa [R] using this
  have hoe : (occurrences z crlf 0 z.length (z.length + 1)).isEmpty = false := by
    rw [hocc]
    match rows, hne with
    | r :: r2 :: rs, _ => rfl
  have hpb : partsBetween z (occurrences z crlf 0 z.length (z.length + 1)) crlf.length = rows.map fun r => (⟨r.toArray⟩ : Str) := by
    rw [← hsp]; unfold Txt.split; rw [if_neg (by rw [h1]; simp), if_neg (by rw [hoe]; simp)]
  refine Cal.split rfl h1 hoe hs (by rw [hpb, List.length_map]; exact hrl) ?_
  rw [hpb, List.map_map]
  exact h
end

end

section
open PySem PySem.Calls PyProof.Rows PySem.W

theorem jl_le {sep : List Nat} {B : Nat} : ∀ {rows : List (List Nat)}, (∀ r ∈ rows, r.length ≤ B) → (jl sep rows).length ≤ rows.length * (B + sep.length)
  | [], _ => Nat.zero_le _
  | [r], h => by have := h r List.mem_cons_self; simp [jl]; omega
  | r :: r2 :: rs, h => by
    have ih := jl_le (sep := sep) (rows := r2 :: rs) fun q hq => h q (List.mem_cons_of_mem _ hq)
    have h0 := h r List.mem_cons_self
    simp only [jl, List.length_append, List.length_cons] at ih ⊢
    rw [Nat.succ_mul]; omega
theorem fl_len : ∀ ps : List Str, (ps.map (·.length)).sum = (fl ps).length
  | [] => rfl
  | p :: ps => by simp [fl, Str.length]
theorem pcs_len (x r : Str) : ∀ (ms : List (Nat × Nat)) (d : Nat), (pcs x r d ms).length ≤ 2 * ms.length + 1
  | [], d => by unfold pcs; split <;> simp
  | (b, e) :: ms, d => by
    have := pcs_len x r ms e
    unfold pcs
    split <;> simp <;> omega
theorem ms2_len (w : Nat) : ∀ (rows : List (List Nat)) (o : Nat), (ms2 w o rows).length ≤ rows.length
  | [], _ => Nat.zero_le _
  | [r], _ => Nat.zero_le _
  | r :: r2 :: rs, o => by have := ms2_len w (r2 :: rs) (o + r.length + w); simp [ms2] at this ⊢; exact this
theorem ms1_len : ∀ (rows : List (List Nat)) (o : Nat), (ms1 o rows).length ≤ rows.length
  | [], _ => Nat.zero_le _
  | r :: rs, o => by have := ms1_len rs (o + r.length + 2); unfold ms1; split <;> simp <;> omega
theorem dd_len (r : List Nat) : (dd r).length ≤ r.length + 1 := by unfold dd; split <;> simp
theorem dd_ok {r : List Nat} (h : RowOk r) : RowOk (dd r) := by
  unfold dd
  split
  · exact ⟨by simp, fun c hc => (List.mem_cons.mp hc).elim .inl (h.2 c)⟩
  · exact h

section
variable {Γ : Gam} {n : Nat} {env : Env} {st : St} {Q : V → St → Prop}
theorem Cal.sub {p : Addr} {code : Array Nat} {x r : Str} {ms : List (Nat × Nat)} (P : ∀ h, Γ.In h → Pat h p code) (hx : x.cps.size ≤ 100000) (hr : r.cps.contains 92 = false) (hsz : 2 * ms.length ≤ 900) (hM : Mat code x.cps 0 false ms)
    (hw : (fl (pcs x r 0 ms)).length ≤ 100000) (h : Q (.str (Txt.join ⟨#[]⟩ (pcs x r 0 ms))) st) : Cal Γ n env st (.val (.builtin "re.Pattern.sub")) [.val (.ref p), .str r, .str x] Q := by
  unfold Cal
  intro A s ρ φ f as hA rp hf hv
  obtain rfl := hf.val_inv
  cases hv with | cons h1 h2 => cases h2 with | cons h2 h3 => cases h3 with | cons h3 h4 =>
    cases h4
    obtain rfl := h1.val_inv
    cases h2; cases h3
    exact sub_call hx hr (P _ rp.base) hsz hM (by rw [fl_len]; have := pcs_len x r ms 0; omega) fun h' tk t' k => Post.mk (Ext.grow k) (rp.grow k) (.str _ _) h
theorem pat_ty {p : Addr} {code : Array Nat} (P : ∀ h, Γ.In h → Pat h p code) : TyIs Γ st (.val (.ref p)) "re.Pattern" := fun env ρ φ s a r v => by
  obtain rfl := v.val_inv
  obtain ⟨_, _, _, _, _, _, e, _⟩ := (P _ r.base).obj
  exact ⟨⟨_, e, rfl⟩, fun b q => by cases q; exact ⟨_, e, rfl⟩⟩
end
theorem pat1 {Γ : Gam} (G : Grd Γ (K0 Γ)) : ∀ h, Γ.In h → Pat h 79 code1 := fun h hi => ⟨_, _, _, _, _, _, G.In hi _ _ rfl, G.In hi _ _ rfl, by decide +kernel⟩
theorem pat2 {Γ : Gam} (G : Grd Γ (K0 Γ)) : ∀ h, Γ.In h → Pat h 84 code2 := fun h hi => ⟨_, _, _, _, _, _, G.In hi _ _ rfl, G.In hi _ _ rfl, by decide +kernel⟩

set_option maxHeartbeats 1000000 in
theorem quotedata {Γ : Gam} {n env st} {Q : V → St → Prop} (G : Grd Γ (K0 Γ)) {rows : List (List Nat)} {sep : List Nat} {x : Str} (hsep : sep = [10] ∨ sep = [13] ∨ sep = [13, 10]) (hne : rows ≠ []) (hr : ∀ r ∈ rows, RowOk r) (hB : ∀ r ∈ rows, r.length ≤ 20) (hrl : rows.length ≤ 100)
    (hx : x.cps.toList = jl sep rows) (h : ∀ z : Str, z.cps.toList = jl [13, 10] (rows.map dd) → Q (.str z) st) : Cal Γ (n + 1) env st (.val (.ref 91)) [.str x] Q := by
  refine Cal.fn (bv := [("data", .str x)]) (G.def (a := 91) rfl rfl) rfl ?_ ?_ ?_ ?_
  · intro s as ρ φ hi hv
    cases hv with | cons h1 h2 => cases h2; exact ⟨_, BindsTo.of_eq rfl, .cons h1 .nil⟩
  · kernel_rfl
  · kernel_rfl
  · intro L
    have hsl : sep.length ≤ 2 := by rcases hsep with rfl | rfl | rfl <;> decide
    have hxl := jl_le (sep := sep) hB
    have hxs : x.cps.size = x.cps.toList.length := by simp
    have hb : rows.length * (20 + sep.length) ≤ 100 * 22 := Nat.mul_le_mul hrl (by omega)
    have hM2 := mat2 (text := x.cps) hsep rows 0 false hne hr (by rw [List.drop_zero]; exact hx) (Nat.zero_le _)
    have hP2 := pcs2 (x := x) (sep := sep) rows 0 hne hr (by rw [List.drop_zero]; exact hx) (Nat.zero_le _)
    have hyl := jl_le (sep := [13, 10]) hB
    have hb2 : rows.length * (20 + [13, 10].length) ≤ 100 * 22 := Nat.mul_le_mul hrl (by decide)
    generalize hy : Txt.join ⟨#[]⟩ (pcs x ⟨#[13, 10]⟩ 0 (ms2 sep.length 0 rows)) = y
    have hyL : y.cps.toList = jl [13, 10] rows := by rw [← hy, join_fl, hP2]
    have hys : y.cps.size = y.cps.toList.length := by simp
    have hM1 := mat1 (text := y.cps) (by rw [hys, hyL]; omega) rows 0 0 false hr (fun _ => ⟨by rw [List.drop_zero]; exact hyL, Nat.zero_le _, .inl rfl⟩) (Nat.zero_le _) (fun j h1 h2 => absurd h2 (Nat.not_lt_zero _)) (fun e => absurd e hne) (Nat.zero_le _)
    have hP1 := pcs1 (x := y) rows 0 0 hr (fun _ => ⟨by rw [List.drop_zero]; exact hyL, Nat.zero_le _⟩) (Nat.zero_le _) (Nat.zero_le _) (fun e => absurd e hne)
    rw [Nat.sub_zero, List.take_zero, List.nil_append] at hP1
    have hzl := jl_le (sep := [13, 10]) (rows := rows.map dd) (B := 21) (fun q hq => by obtain ⟨r, h1, rfl⟩ := List.mem_map.mp hq; have := dd_len r; have := hB r h1; omega)
    rw [List.length_map] at hzl
    have hb3 : rows.length * (21 + [13, 10].length) ≤ 100 * 23 := Nat.mul_le_mul hrl (by decide)
    have hxL : x.cps.toList.length = (jl sep rows).length := by rw [hx]
    have hyLL : y.cps.toList.length = (jl [13, 10] rows).length := by rw [hyL]
    refine Exs.cons ?_
    refine Ex.ret ?_
    refine Ev.mth plainAttrs_pat slot_pat_sub type_pat_sub rfl (by kernel_rfl) (by kernel_rfl) ?_
    refine Ev.glo (G.gv rfl) (fun _ _ _ => .val _) rfl rfl (by kernel_rfl) (by kernel_rfl) ?_
    refine ⟨pat_ty (pat1 G), ?_⟩
    refine Arg.cons ?_
    refine Ev.str ?_
    refine Arg.cons ?_
    refine Ev.mth plainAttrs_pat slot_pat_sub type_pat_sub rfl (by kernel_rfl) (by kernel_rfl) ?_
    refine Ev.glo (G.gv rfl) (fun _ _ _ => .val _) rfl rfl (by kernel_rfl) (by kernel_rfl) ?_
    refine ⟨pat_ty (pat2 G), ?_⟩
    refine Arg.cons ?_
    refine Ev.glo (v := .str _) (G.gv rfl) (fun _ _ _ => .str _ _) rfl rfl (by kernel_rfl) (by kernel_rfl) ?_
    refine Arg.cons ?_
    refine Ev.loc (by (repeat (first | assumption | with_reducible exact lk0 | with_reducible refine lkb (by kernel_rfl) ?_ | simp only [List.reverse_cons, List.reverse_nil, List.nil_append, List.cons_append]))) rfl (by kernel_rfl) (by kernel_rfl) ?_
    refine Arg.nil ?_
    rw [show (Str.ofString "\r\n") = ⟨#[13, 10]⟩ by decide +kernel]
    refine Cal.sub (pat2 G) (by omega) (by decide +kernel) (by have := ms2_len sep.length rows 0; omega) hM2 (by rw [hP2]; omega) ?_
    rw [hy]
    refine Arg.nil ?_
    rw [show (Str.ofString "..") = ⟨#[46, 46]⟩ by decide +kernel]
    refine Cal.sub (pat1 G) (by omega) (by decide +kernel) (by have := ms1_len rows 0; omega) hM1 (by rw [hP1]; omega) ?_
    exact h _ (by rw [join_fl, hP1])

end

section
open PySem PySem.W

noncomputable def up (row : List Int) (i : Nat) : Bool := decide (row.getD i 0 < row.getD (i + 1) 0)
noncomputable def spotsN (row : List Int) : List Nat := (List.range 4).filter (up row)
theorem filt_succ {α : Type} (f : Nat → Bool) (g : Nat → α) (j : Nat) : ((List.range (j + 1)).filter f).map g = ((List.range j).filter f).map g ++ (if f j = true then [g j] else []) := by
  rw [List.range_succ, List.filter_append, List.map_append]
  cases h : f j <;> simp [h]
noncomputable def spotsOf (row : List Int) : List Int := (spotsN row).map fun (i : Nat) => (i : Int)
noncomputable def swp (row : List Int) (a : Nat) : List Int := row.take a ++ [row.getD (a + 1) 0, row.getD a 0] ++ row.drop (a + 2)
noncomputable def ins0 (x : Int) : List Int → List (List Int)
  | [] => [[x]]
  | y :: l => (x :: y :: l) :: (ins0 x l).map (y :: ·)
noncomputable def permsOf : List Int → List (List Int)
  | [] => [[]]
  | x :: l => (permsOf l).flatMap (ins0 x)
noncomputable def perms : List (List Int) := permsOf [0, 1, 2, 3, 4]
noncomputable def inv (row : List Int) : Nat := ((List.range 5).map fun i => ((List.range 5).filter fun j => decide (i < j) && decide (row.getD j 0 < row.getD i 0)).length).sum
noncomputable def row0 : List Int := [0, 1, 2, 3, 4]
noncomputable def row9 : List Int := [4, 3, 2, 1, 0]
/-- the place that a number picks -/
noncomputable def pick (row : List Int) (n : Int) : Nat := (spotsN row).getD (n.fmod ((spotsN row).length : Int)).toNat 0
noncomputable def keyOf (row : List Int) (a : Nat) : Int := 10 * row.getD a 0 + row.getD (a + 1) 0
noncomputable def rowAt (ns : List Int) : Nat → List Int
  | 0 => row0
  | i + 1 => swp (rowAt ns i) (pick (rowAt ns i) (ns.getD i 0))
noncomputable def timesAt (ns : List Int) : Nat → List (Int × Int)
  | 0 => []
  | i + 1 => kdfPut (timesAt ns i) (keyOf (rowAt ns i) (pick (rowAt ns i) (ns.getD i 0))) i

theorem edges : ∀ row ∈ perms, (row.length = 5) ∧ (inv row < 10 → spotsN row ≠ []) ∧ (inv row = 10 → row = row9) ∧ (∀ a ∈ spotsN row, a < 4 ∧ swp row a ∈ perms ∧ inv (swp row a) = inv row + 1) := by decide +kernel
theorem pick_mem {row : List Int} (h : spotsN row ≠ []) (n : Int) : pick row n ∈ spotsN row ∧ (n.fmod ((spotsN row).length : Int)) < (spotsN row).length ∧ 0 ≤ n.fmod ((spotsN row).length : Int) := by
  have hl : 0 < (spotsN row).length := List.length_pos_iff.mpr h
  have h1 : n.fmod ((spotsN row).length : Int) = n.emod ((spotsN row).length : Int) := Int.fmod_eq_emod_of_nonneg _ (by omega)
  have h2 := Int.emod_lt_of_pos n (b := ((spotsN row).length : Int)) (by omega)
  have h3 := Int.emod_nonneg n (b := ((spotsN row).length : Int)) (by omega)
  have h2' : n.fmod ((spotsN row).length : Int) < (spotsN row).length := by rw [h1]; exact h2
  have h3' : 0 ≤ n.fmod ((spotsN row).length : Int) := by rw [h1]; exact h3
  refine ⟨?_, h2', h3'⟩
  unfold pick
  have hlt : (n.fmod ((spotsN row).length : Int)).toNat < (spotsN row).length := by omega
  simp only [List.getD_eq_getElem?_getD, List.getElem?_eq_getElem hlt, Option.getD_some]
  exact List.getElem_mem hlt
theorem rowAt_ok (ns : List Int) : ∀ i, i ≤ 10 → rowAt ns i ∈ perms ∧ inv (rowAt ns i) = i
  | 0, _ => by show row0 ∈ perms ∧ inv row0 = 0; decide +kernel
  | i + 1, h => by
    obtain ⟨h1, h2⟩ := rowAt_ok ns i (by omega)
    obtain ⟨_, e2, _, e4⟩ := edges _ h1
    have h3 := (pick_mem (e2 (by omega)) (ns.getD i 0)).1
    obtain ⟨_, f1, f2⟩ := e4 _ h3
    exact ⟨f1, by show inv (swp _ _) = _; rw [f2, h2]⟩
theorem spots_key (row : List Int) : ((List.range (intsV 0 4).length).filter (up row)).map (fun (k : Nat) => V.int k) = (spotsOf row).map V.int := by
  rw [show (intsV 0 4).length = 4 from rfl, spotsOf, List.map_map]; rfl
theorem spotsOf_len (row : List Int) : (spotsOf row).length = (spotsN row).length := by simp [spotsOf]
theorem spotsOf_get (row : List Int) (k : Nat) : (spotsOf row).getD k 0 = ((spotsN row).getD k 0 : Nat) := by
  simp only [spotsOf, List.getD_eq_getElem?_getD, List.getElem?_map]
  cases (spotsN row)[k]? <;> simp
theorem spotsN_le (row : List Int) : (spotsN row).length ≤ 4 := Nat.le_trans (List.length_filter_le _ _) (by simp)
theorem timesAt_len (ns : List Int) : ∀ i, (timesAt ns i).length ≤ i
  | 0 => Nat.le_refl _
  | i + 1 => Nat.le_trans (kdfPut_len _ _ _) (Nat.succ_le_succ (timesAt_len ns i))

end

section
open PySem PySem.Calls PyProof.Rows PySem.W

set_option maxHeartbeats 2000000 in
theorem own_times {Γ : Gam} {n env st} {Q : V → St → Prop} (G : Grd Γ (K0 Γ)) {ns : List Int} (hlen : 10 ≤ ns.length) (hle : ns.length ≤ 1000)
    (h : ∀ c, Q (.obj (st.heap.length + 1)) { st with heap := st.heap ++ [c, .dict (timesAt ns 10)] }) : Cal Γ (n + 2) env st (.val (.ref 115)) [.list (ns.map .int)] Q := by
  refine Cal.fnC2 (bv := [("numbers", .list (ns.map .int))]) (hp := st.heap ++ [.cell none]) (cl := [("row", st.heap.length)]) ["row"] (G.def (a := 115) rfl rfl) rfl ?_ (by rfl) (by decide) ?_ rfl rfl ?_
  · intro as ρ φ h hv
    cases hv with | cons h1 h2 => cases h2; exact ⟨_, rfl, .cons h1 .nil⟩
  · kernel_rfl
  · intro L
    refine Exs.cons ?_
    refine Ex.assign (by rfl) ?_
    refine Ev.listF ?_
    refine Arg.cons ?_
    refine Ev.int ?_
    refine Arg.cons ?_
    refine Ev.int ?_
    refine Arg.cons ?_
    refine Ev.int ?_
    refine Arg.cons ?_
    refine Ev.int ?_
    refine Arg.cons ?_
    refine Ev.int ?_
    refine Arg.nil ?_
    refine ⟨by simp, ?_⟩
    refine Sto.cel2 rfl (by (first | assumption | (simp only [getB, getB0, List.append_assoc, List.cons_append, List.nil_append]; rfl) | rfl)) rfl (by kernel_rfl) (by (first | (simp only [setB, setB0, List.append_assoc, List.cons_append, List.nil_append, List.set_cons_zero, List.set_cons_succ]; rfl) | rfl)) ?_
    refine Exs.cons ?_
    refine Ex.assign (by rfl) ?_
    refine Ev.dictM2 G.sys (by ((simp only [List.length_append, List.length_cons, List.length_nil, Nat.zero_add, Nat.reduceAdd]; try rfl))) (by (first | (simp only [setB, setB0, List.append_assoc, List.cons_append, List.nil_append, List.set_cons_zero, List.set_cons_succ]; rfl) | rfl)) ?_
    refine Sto.loc (by kernel_rfl) (by kernel_rfl) ?_
    refine Exs.cons ?_
    refine Ex.for (fun _ => rfl) ?_
    refine Ev.call ?_
    refine Ev.bui (G.gb rfl boot_range (by decide)) rfl rfl rfl (by kernel_rfl) (by kernel_rfl) ?_
    refine ⟨_, rfl, KP.type, ?_⟩
    refine Arg.cons ?_
    refine Ev.int ?_
    refine Arg.nil ?_
    with_reducible refine Cal.range1 ?_
    refine ⟨_, Itr.rng (by decide) (by decide) (by decide) (by decide), fun i st' => At [("row", st.heap.length)] (st.heap ++ [.cell (some (.list ((rowAt ns i).map .int))), .dict (timesAt ns i)]) st.pin st' ∧ st'.loc.lookup ("numbers" : Str) = some (.list (ns.map .int)) ∧ st'.loc.lookup ("times" : Str) = some (.obj (st.heap.length + 1)), ⟨⟨rfl, rfl, rfl⟩, by (repeat (first | assumption | with_reducible exact lk0 | with_reducible refine lkb (by kernel_rfl) ?_ | simp only [List.reverse_cons, List.reverse_nil, List.nil_append, List.cons_append])), by (repeat (first | assumption | with_reducible exact lk0 | with_reducible refine lkb (by kernel_rfl) ?_ | simp only [List.reverse_cons, List.reverse_nil, List.nil_append, List.cons_append]))⟩, ?_, ?_⟩
    · rintro i ⟨loc, _, _, _⟩ u ⟨⟨rfl, rfl, rfl⟩, h1, h2⟩ hu
      replace h1 : loc.lookup ("numbers" : Str) = _ := h1
      replace h2 : loc.lookup ("times" : Str) = _ := h2
      obtain ⟨hi, rfl⟩ := intsV_at hu
      refine Asg.name ?_
      refine Sto.loc (by kernel_rfl) (by kernel_rfl) ?_
      refine Exs.cons ?_
      refine Ex.assignC ⟨fun _ => rfl, by kernel_rfl, by kernel_rfl, rfl, by kernel_rfl⟩ (by rfl) ?_
      unfold Cmp
      refine Ev.call ?_
      refine Ev.bui (G.gb rfl boot_range (by decide)) rfl rfl rfl (by kernel_rfl) (by kernel_rfl) ?_
      refine ⟨_, rfl, KP.type, ?_⟩
      refine Arg.cons ?_
      refine Ev.int ?_
      refine Arg.nil ?_
      with_reducible refine Cal.range1 ?_
      refine ⟨_, Itr.rng (by decide) (by decide) (by decide) (by decide), ?_⟩
      refine cmp2 [("row", st.heap.length)] (by rfl) (by (first | (simp only [setB, setB0, List.append_assoc, List.cons_append, List.nil_append, List.set_cons_zero, List.set_cons_succ]; rfl) | rfl)) (by ((simp only [List.length_append, List.length_cons, List.length_nil, Nat.zero_add, Nat.reduceAdd]; try rfl))) fun C => ?_
      have hrow := rowAt_ok ns i (by omega)
      obtain ⟨e1, e2, _, e4⟩ := edges _ hrow.1
      refine CL.last (by rfl) (by rfl) (fun j => At [("row", st.heap.length)] (st.heap ++ [.cell (some (.list ((rowAt ns i).map .int))), .dict (timesAt ns i), .list (((List.range j).filter (up (rowAt ns i))).map fun (k : Nat) => V.int k)]) st.pin) ⟨rfl, rfl, rfl⟩ ?_ ?_
      · rintro j ⟨loc, _, _, _⟩ u ⟨rfl, rfl, rfl⟩ hu
        obtain ⟨hj, rfl⟩ := intsV_at hu
        refine Asg.name ?_
        refine Sto.loc (by kernel_rfl) (by kernel_rfl) ?_
        refine Ifs.one ?_
        refine Tst.cmp (by kernel_rfl) ?_
        refine Ev.sub ?_
        refine Ev.cel rfl (by (first | assumption | (simp only [getB, getB0, List.append_assoc, List.cons_append, List.nil_append]; rfl) | rfl)) rfl (by kernel_rfl) (by kernel_rfl) ?_
        refine Ev.loc (by (repeat (first | assumption | with_reducible exact lk0 | with_reducible refine lkb (by kernel_rfl) ?_ | simp only [List.reverse_cons, List.reverse_nil, List.nil_append, List.cons_append]))) rfl (by kernel_rfl) (by kernel_rfl) ?_
        refine Op2.itemI (ns := rowAt ns i) (fun _ _ => rfl) (.inl rfl) (by omega) (by rw [e1]; omega) (by rw [e1]; decide) ?_
        refine Ev.sub ?_
        refine Ev.cel rfl (by (first | assumption | (simp only [getB, getB0, List.append_assoc, List.cons_append, List.nil_append]; rfl) | rfl)) rfl (by kernel_rfl) (by kernel_rfl) ?_
        refine Ev.binop ?_
        refine Ev.loc (by (repeat (first | assumption | with_reducible exact lk0 | with_reducible refine lkb (by kernel_rfl) ?_ | simp only [List.reverse_cons, List.reverse_nil, List.nil_append, List.cons_append]))) rfl (by kernel_rfl) (by kernel_rfl) ?_
        refine Ev.int ?_
        with_reducible refine Op2.addI ?_
        refine Op2.itemI (ns := rowAt ns i) (fun _ _ => rfl) (.inl rfl) (by omega) (by rw [e1]; omega) (by rw [e1]; decide) ?_
        with_reducible refine Op2.ltI ?_
        refine ⟨_, rfl, ?_⟩
        rw [show ((0 : Int) + (j : Int)).toNat = j by omega, show ((0 : Int) + (j : Int) + 1).toNat = j + 1 by omega]
        by_cases hc : (rowAt ns i).getD j 0 < (rowAt ns i).getD (j + 1) 0
        · rw [if_pos (decide_eq_true hc)]
          refine Ev.loc (by (repeat (first | assumption | with_reducible exact lk0 | with_reducible refine lkb (by kernel_rfl) ?_ | simp only [List.reverse_cons, List.reverse_nil, List.nil_append, List.cons_append]))) rfl (by kernel_rfl) (by kernel_rfl) ?_
          refine ⟨_, by (first | assumption | (simp only [getB, getB0, List.append_assoc, List.cons_append, List.nil_append]; rfl) | rfl), ?_, rfl, ?_, rfl⟩
          · simp only [List.length_map]
            exact Nat.le_trans (List.length_filter_le _ _) (by simp; omega)
          · simp only [setB, List.set_cons_zero, List.set_cons_succ, filt_succ]
            rw [if_pos (show up (rowAt ns i) j = true from decide_eq_true hc), Int.zero_add]
        · rw [if_neg (by simpa using hc)]
          refine ⟨rfl, ?_, rfl⟩
          rw [filt_succ, if_neg (show ¬ up (rowAt ns i) j = true from fun z => hc (of_decide_eq_true z)), List.append_nil]
      · rintro ⟨loc, _, _, _⟩ ⟨rfl, rfl, rfl⟩
        refine ⟨(spotsOf (rowAt ns i)).map V.int, ?_, Fzs.map _ (fun k => .int _) _, ?_⟩
        · simp only [List.append_assoc, List.cons_append, List.nil_append]
          rw [spots_key]
        have hne := e2 (by omega)
        obtain ⟨p1, p2, p3⟩ := pick_mem hne (ns.getD i 0)
        have hsl := spotsN_le (rowAt ns i)
        have hpos : 0 < (spotsN (rowAt ns i)).length := List.length_pos_iff.mpr hne
        refine Sto.loc (by kernel_rfl) (by kernel_rfl) ?_
        refine Exs.cons ?_
        refine Ex.assign (by rfl) ?_
        refine Ev.sub ?_
        refine Ev.loc (by (repeat (first | assumption | with_reducible exact lk0 | with_reducible refine lkb (by kernel_rfl) ?_ | simp only [List.reverse_cons, List.reverse_nil, List.nil_append, List.cons_append]))) rfl (by kernel_rfl) (by kernel_rfl) ?_
        refine Ev.binop ?_
        refine Ev.sub ?_
        refine Ev.loc (by (repeat (first | assumption | with_reducible exact lk0 | with_reducible refine lkb (by kernel_rfl) ?_ | simp only [List.reverse_cons, List.reverse_nil, List.nil_append, List.cons_append]))) rfl (by kernel_rfl) (by kernel_rfl) ?_
        refine Ev.loc (by (repeat (first | assumption | with_reducible exact lk0 | with_reducible refine lkb (by kernel_rfl) ?_ | simp only [List.reverse_cons, List.reverse_nil, List.nil_append, List.cons_append]))) rfl (by kernel_rfl) (by kernel_rfl) ?_
        refine Op2.itemI (ns := ns) (fun _ _ => rfl) (.inl rfl) (by omega) (by omega) (by omega) ?_
        refine Ev.call ?_
        refine Ev.bui (G.gb rfl boot_len (by decide)) rfl rfl rfl (by kernel_rfl) (by kernel_rfl) ?_
        refine ⟨_, rfl, KP.builtin, ?_⟩
        refine Arg.cons ?_
        refine Ev.loc (by (repeat (first | assumption | with_reducible exact lk0 | with_reducible refine lkb (by kernel_rfl) ?_ | simp only [List.reverse_cons, List.reverse_nil, List.nil_append, List.cons_append]))) rfl (by kernel_rfl) (by kernel_rfl) ?_
        refine Arg.nil ?_
        refine Cal.lenL (.inl rfl) (by rw [List.length_map, spotsOf_len]; omega) ?_
        rw [List.length_map, spotsOf_len, show ((0 : Int) + (i : Int)).toNat = i by omega]
        refine Op2.modI (by omega) ?_
        refine Op2.itemI (ns := spotsOf (rowAt ns i)) (fun _ _ => rfl) (.inl rfl) p3 (by rw [spotsOf_len]; exact p2) (by rw [spotsOf_len]; omega) ?_
        rw [spotsOf_get, show (spotsN (rowAt ns i)).getD ((ns.getD i 0).fmod ((spotsN (rowAt ns i)).length : Int)).toNat 0 = pick (rowAt ns i) (ns.getD i 0) from rfl]
        generalize hat : pick (rowAt ns i) (ns.getD i 0) = a at p1
        obtain ⟨q1, q2, q3⟩ := e4 a p1
        refine Sto.loc (by kernel_rfl) (by kernel_rfl) ?_
        refine Exs.cons ?_
        refine Ex.assignS (by rfl) ?_
        refine Ev.loc (by (repeat (first | assumption | with_reducible exact lk0 | with_reducible refine lkb (by kernel_rfl) ?_ | simp only [List.reverse_cons, List.reverse_nil, List.nil_append, List.cons_append]))) rfl (by kernel_rfl) (by kernel_rfl) ?_
        refine Ev.loc (by (repeat (first | assumption | with_reducible exact lk0 | with_reducible refine lkb (by kernel_rfl) ?_ | simp only [List.reverse_cons, List.reverse_nil, List.nil_append, List.cons_append]))) rfl (by kernel_rfl) (by kernel_rfl) ?_
        refine Ev.binop ?_
        refine Ev.binop ?_
        refine Ev.int ?_
        refine Ev.sub ?_
        refine Ev.cel rfl (by (first | assumption | (simp only [getB, getB0, List.append_assoc, List.cons_append, List.nil_append]; rfl) | rfl)) rfl (by kernel_rfl) (by kernel_rfl) ?_
        refine Ev.loc (by (repeat (first | assumption | with_reducible exact lk0 | with_reducible refine lkb (by kernel_rfl) ?_ | simp only [List.reverse_cons, List.reverse_nil, List.nil_append, List.cons_append]))) rfl (by kernel_rfl) (by kernel_rfl) ?_
        refine Op2.itemI (ns := rowAt ns i) (fun _ _ => rfl) (.inl rfl) (by omega) (by omega) (by omega) ?_
        (with_reducible refine Op2.mulI ?_ ?_; exact IntMulOk.of_left (by decide))
        refine Ev.sub ?_
        refine Ev.cel rfl (by (first | assumption | (simp only [getB, getB0, List.append_assoc, List.cons_append, List.nil_append]; rfl) | rfl)) rfl (by kernel_rfl) (by kernel_rfl) ?_
        refine Ev.binop ?_
        refine Ev.loc (by (repeat (first | assumption | with_reducible exact lk0 | with_reducible refine lkb (by kernel_rfl) ?_ | simp only [List.reverse_cons, List.reverse_nil, List.nil_append, List.cons_append]))) rfl (by kernel_rfl) (by kernel_rfl) ?_
        refine Ev.int ?_
        with_reducible refine Op2.addI ?_
        refine Op2.itemI (ns := rowAt ns i) (fun _ _ => rfl) (.inl rfl) (by omega) (by omega) (by omega) ?_
        with_reducible refine Op2.addI ?_
        rw [show ((a : Int)).toNat = a by omega, show ((a : Int) + 1).toNat = a + 1 by omega]
        refine Set3.dict2 (by (first | assumption | (simp only [getB, getB0, List.append_assoc, List.cons_append, List.nil_append]; rfl) | rfl)) (Nat.le_trans (timesAt_len ns i) (by omega)) (by (first | (simp only [setB, setB0, List.append_assoc, List.cons_append, List.nil_append, List.set_cons_zero, List.set_cons_succ]; rfl) | rfl)) ?_
        refine Exs.cons ?_
        refine Ex.assign (by rfl) ?_
        refine Ev.binop ?_
        refine Ev.binop ?_
        refine Ev.upto ?_
        refine Ev.cel rfl (by (first | assumption | (simp only [getB, getB0, List.append_assoc, List.cons_append, List.nil_append]; rfl) | rfl)) rfl (by kernel_rfl) (by kernel_rfl) ?_
        refine Ev.loc (by (repeat (first | assumption | with_reducible exact lk0 | with_reducible refine lkb (by kernel_rfl) ?_ | simp only [List.reverse_cons, List.reverse_nil, List.nil_append, List.cons_append]))) rfl (by kernel_rfl) (by kernel_rfl) ?_
        refine ⟨_, rfl, ?_⟩
        refine ⟨(rowAt ns i).map V.int, .inl rfl, by rw [List.length_map]; omega, ?_⟩
        refine Ev.listF ?_
        refine Arg.cons ?_
        refine Ev.sub ?_
        refine Ev.cel rfl (by (first | assumption | (simp only [getB, getB0, List.append_assoc, List.cons_append, List.nil_append]; rfl) | rfl)) rfl (by kernel_rfl) (by kernel_rfl) ?_
        refine Ev.binop ?_
        refine Ev.loc (by (repeat (first | assumption | with_reducible exact lk0 | with_reducible refine lkb (by kernel_rfl) ?_ | simp only [List.reverse_cons, List.reverse_nil, List.nil_append, List.cons_append]))) rfl (by kernel_rfl) (by kernel_rfl) ?_
        refine Ev.int ?_
        with_reducible refine Op2.addI ?_
        refine Op2.itemI (ns := rowAt ns i) (fun _ _ => rfl) (.inl rfl) (by omega) (by omega) (by omega) ?_
        refine Arg.cons ?_
        refine Ev.sub ?_
        refine Ev.cel rfl (by (first | assumption | (simp only [getB, getB0, List.append_assoc, List.cons_append, List.nil_append]; rfl) | rfl)) rfl (by kernel_rfl) (by kernel_rfl) ?_
        refine Ev.loc (by (repeat (first | assumption | with_reducible exact lk0 | with_reducible refine lkb (by kernel_rfl) ?_ | simp only [List.reverse_cons, List.reverse_nil, List.nil_append, List.cons_append]))) rfl (by kernel_rfl) (by kernel_rfl) ?_
        refine Op2.itemI (ns := rowAt ns i) (fun _ _ => rfl) (.inl rfl) (by omega) (by omega) (by omega) ?_
        refine Arg.nil ?_
        refine ⟨by simp, ?_⟩
        refine Op2.addL (.inl rfl) (.inl rfl) (by simp; omega) ?_
        refine Ev.from ?_
        refine Ev.cel rfl (by (first | assumption | (simp only [getB, getB0, List.append_assoc, List.cons_append, List.nil_append]; rfl) | rfl)) rfl (by kernel_rfl) (by kernel_rfl) ?_
        refine Ev.binop ?_
        refine Ev.loc (by (repeat (first | assumption | with_reducible exact lk0 | with_reducible refine lkb (by kernel_rfl) ?_ | simp only [List.reverse_cons, List.reverse_nil, List.nil_append, List.cons_append]))) rfl (by kernel_rfl) (by kernel_rfl) ?_
        refine Ev.int ?_
        with_reducible refine Op2.addI ?_
        refine ⟨_, rfl, ?_⟩
        refine ⟨(rowAt ns i).map V.int, .inl rfl, by rw [List.length_map]; omega, ?_⟩
        refine Op2.addL (.inl rfl) (.inl rfl) (by simp; omega) ?_
        rw [show ((a : Int)).toNat = a by omega, show ((a : Int) + 1).toNat = a + 1 by omega]
        refine Sto.cel2 rfl (by (first | assumption | (simp only [getB, getB0, List.append_assoc, List.cons_append, List.nil_append]; rfl) | rfl)) rfl (by kernel_rfl) (by (first | (simp only [setB, setB0, List.append_assoc, List.cons_append, List.nil_append, List.set_cons_zero, List.set_cons_succ]; rfl) | rfl)) ?_
        refine Exs.nil ?_
        have hr1 : rowAt ns (i + 1) = swp (rowAt ns i) a := by show swp _ (pick _ _) = _; rw [hat]
        have ht1 : timesAt ns (i + 1) = kdfPut (timesAt ns i) (keyOf (rowAt ns i) a) i := by show kdfPut _ (keyOf _ (pick _ _)) _ = _; rw [hat]
        have hl : (List.map V.int (rowAt ns i)).take a ++ [V.int ((rowAt ns i).getD (a + 1) 0), V.int ((rowAt ns i).getD a 0)] ++ (List.map V.int (rowAt ns i)).drop (a + 2) = (swp (rowAt ns i) a).map V.int := by simp [swp, List.map_take, List.map_drop]
        refine ⟨⟨rfl, ?_, rfl⟩, by (repeat (first | assumption | with_reducible exact lk0 | with_reducible refine lkb (by kernel_rfl) ?_ | simp only [List.reverse_cons, List.reverse_nil, List.nil_append, List.cons_append])), by (repeat (first | assumption | with_reducible exact lk0 | with_reducible refine lkb (by kernel_rfl) ?_ | simp only [List.reverse_cons, List.reverse_nil, List.nil_append, List.cons_append]))⟩
        rw [hr1, ht1, ← hl]
        simp only [Int.zero_add, keyOf, List.append_assoc, List.cons_append, List.nil_append]
    · rintro ⟨loc, _, _, _⟩ ⟨⟨rfl, rfl, rfl⟩, h1, h2⟩
      replace h2 : loc.lookup ("times" : Str) = _ := h2
      refine Exs.cons ?_
      refine Ex.ret ?_
      refine Ev.loc (by (repeat (first | assumption | with_reducible exact lk0 | with_reducible refine lkb (by kernel_rfl) ?_ | simp only [List.reverse_cons, List.reverse_nil, List.nil_append, List.cons_append]))) rfl (by kernel_rfl) (by kernel_rfl) ?_
      exact h _

end

section
open PySem PySem.W

noncomputable def fl8 (p : Int) : UInt64 := Float64.ofFrac (decide (1 + p < 0) != decide ((8 : Int) < 0)) (1 + p).natAbs (8 : Int).natAbs
noncomputable def hue6 (p q r : Int) : UInt64 := Float64.mul (hueF (fl8 p) (fl8 q) (fl8 r)) (Float64.ofInt 6)
noncomputable def finOf (x : UInt64) : Option Int := match Float64.decode x with
  | .fin sg m e => some (Float64.truncOf sg m e)
  | _ => none
/-- the sixth, by the order of the three places -/
noncomputable def sixT (p q r : Int) : Int := if p < q ∧ q < r then 3 else if q < p ∧ p < r then 4 else if q < r ∧ r < p then 5 else if p < r ∧ r < q then 2 else if r < p ∧ p < q then 1 else 0
theorem hues : ∀ p ∈ [(0 : Int), 1, 2, 3, 4], ∀ q ∈ [(0 : Int), 1, 2, 3, 4], ∀ r ∈ [(0 : Int), 1, 2, 3, 4], p ≠ q → q ≠ r → p ≠ r →
    (Float64.cmp (mnF (fl8 p) (fl8 q) (fl8 r)) (mxF (fl8 p) (fl8 q) (fl8 r)) == some .eq) = false ∧ Float64.isZero (mxF (fl8 p) (fl8 q) (fl8 r)) = false ∧ Float64.isZero (raF (fl8 p) (fl8 q) (fl8 r)) = false := by decide +kernel
theorem hues2 : ∀ p ∈ [(0 : Int), 1, 2, 3, 4], ∀ q ∈ [(0 : Int), 1, 2, 3, 4], ∀ r ∈ [(0 : Int), 1, 2, 3, 4], p ≠ q → q ≠ r → p ≠ r → ¬ (p < q ∧ q < r) → finOf (hue6 p q r) = some (sixT p q r) := by decide +kernel

end

section
open PySem PySem.W

noncomputable def tw (k i : Nat) : Int := (threes.getD k []).getD i 0
noncomputable def ix (row : List Int) (x : Int) : Nat := row.idxOf x
noncomputable def gone (row : List Int) (k : Nat) : Nat := (if ix row (tw k 1) < ix row (tw k 0) then 1 else 0) + (if ix row (tw k 2) < ix row (tw k 1) then 1 else 0) + (if ix row (tw k 2) < ix row (tw k 0) then 1 else 0)
noncomputable def six (row : List Int) (k : Nat) : Int := sixT (ix row (tw k 0)) (ix row (tw k 1)) (ix row (tw k 2))
noncomputable def way (row : List Int) (k : Nat) : Int := if ix row (tw k 1) < ix row (tw k 0) then 4 else 2
noncomputable def isHeld (row : List Int) (a k : Nat) : Bool := decide (row.getD a 0 ∈ threes.getD k []) && decide (row.getD (a + 1) 0 ∈ threes.getD k [])
noncomputable def heldN (row : List Int) (a : Nat) : List Nat := (List.range 10).filter (isHeld row a)
theorem edges2 : ∀ row ∈ perms, ∀ a ∈ spotsN row, ∀ k ∈ List.range 10,
    (isHeld row a k = true → gone (swp row a) k = gone row k + 1 ∧ gone (swp row a) k ≤ 3 ∧ (gone (swp row a) k = 1 → six (swp row a) k = way (swp row a) k) ∧
      (gone (swp row a) k = 2 → way (swp row a) k = way row k ∧ six (swp row a) k = (3 + 2 * (way row k - 3)).fmod 6) ∧ (gone (swp row a) k = 3 → six (swp row a) k = 0)) ∧
    (isHeld row a k = false → gone (swp row a) k = gone row k ∧ way (swp row a) k = way row k) := by decide +kernel
theorem rows3 : ∀ row ∈ perms, ∀ x ∈ [(0 : Int), 1, 2, 3, 4], x ∈ row ∧ ix row x < 5 := by decide +kernel
theorem triDiff : ∀ row ∈ perms, ∀ k ∈ List.range 10, ix row (tw k 0) ≠ ix row (tw k 1) ∧ ix row (tw k 1) ≠ ix row (tw k 2) ∧ ix row (tw k 0) ≠ ix row (tw k 2) ∧ (0 < gone row k → ¬ (ix row (tw k 0) < ix row (tw k 1) ∧ ix row (tw k 1) < ix row (tw k 2))) := by decide +kernel
theorem triW : ∀ k ∈ List.range 10, threes.getD k [] = [tw k 0, tw k 1, tw k 2] ∧ tw k 0 ∈ [(0 : Int), 1, 2, 3, 4] ∧ tw k 1 ∈ [(0 : Int), 1, 2, 3, 4] ∧ tw k 2 ∈ [(0 : Int), 1, 2, 3, 4] := by decide +kernel

-- the places
noncomputable def bl (ns : List Int) (x : Int) : Nat := (ns.takeWhile fun y => decide (y < x)).length
noncomputable def nearF (row : List Int) (sp : List Int) (near : Int) : List Int :=
  if 0 ≤ near ∧ near < 4 ∧ 256 + row.getD near.toNat 0 - row.getD (near + 1).toNat 0 < 256 then
    if bl sp near = sp.length ∨ sp.getD (bl sp near) 0 ≠ near then sp.take (bl sp near) ++ near :: sp.drop (bl sp near) else sp
  else sp
noncomputable def sp0 (row : List Int) (a : Nat) : List Int := (spotsOf row).eraseIdx (bl (spotsOf row) a)
theorem edges3 : ∀ row ∈ perms, ∀ a ∈ spotsN row, bl (spotsOf row) a < (spotsOf row).length ∧ (spotsOf row).Pairwise (· ≤ ·) ∧ (sp0 row a).Pairwise (· ≤ ·) ∧ (nearF (swp row a) (sp0 row a) ((a : Int) - 1)).Pairwise (· ≤ ·) ∧ (sp0 row a).length ≤ 4 ∧ (nearF (swp row a) (sp0 row a) ((a : Int) - 1)).length ≤ 5 ∧
    nearF (swp row a) (nearF (swp row a) (sp0 row a) ((a : Int) - 1)) ((a : Int) + 1) = spotsOf (swp row a) := by decide +kernel
theorem bl_uniq : ∀ {ns : List Int} {x : Int} {r : Nat}, r ≤ ns.length → (∀ j y, j < r → ns[j]? = some y → y < x) → (∀ j y, r ≤ j → ns[j]? = some y → x ≤ y) → r = bl ns x
  | [], x, r, h, _, _ => by simp at h; subst h; rfl
  | n :: ns, x, 0, _, _, h2 => by
    have h3 := h2 0 n (Nat.le_refl _) (by simp)
    unfold bl
    rw [List.takeWhile_cons, if_neg (by simp; omega)]; rfl
  | n :: ns, x, r + 1, h, h1, h2 => by
    have h3 := h1 0 n (by omega) (by simp)
    have ih := bl_uniq (ns := ns) (x := x) (r := r) (by simpa using h) (fun j y hj e => h1 (j + 1) y (by omega) (by simpa using e)) (fun j y hj e => h2 (j + 1) y (by omega) (by simpa using e))
    unfold bl at ih ⊢
    rw [List.takeWhile_cons, if_pos (by simpa using h3), List.length_cons, ← ih]

end

section
open PySem PySem.Calls PyProof.Rows PySem.W
/-- a function's record in the head's heap, and parts of its text -/
noncomputable def fdOf (Γ : Gam) (a : Addr) : FuncData := match (K0 Γ).lookup a with | some ⟨_, _, .func fd, _⟩ => fd | _ => default
noncomputable def stmtsOf (fd : FuncData) : List Stmt := match fd.body with | .stmts b => b | _ => []
noncomputable def stmtAt (l : List Stmt) (i : Nat) : Stmt := match l.drop i with | s :: _ => s | [] => .Return Option.none default
noncomputable def forBody : Stmt → List Stmt | .For _ _ b _ _ => b | _ => []
noncomputable def dot (m : Nat) : Str := ⟨(List.replicate m 46).toArray⟩
noncomputable def dotsV (row : List Int) : List V := (List.range 10).map fun k => V.str (dot (1 + gone row k))
noncomputable abbrev clR (B : Nat) : List (Str × Nat) := [("threes", B), ("row", B + 1), ("dots", B + 2), ("left", B + 3), ("right", B + 4), ("held", B + 5)]
/-- the statements of a turn of _law_run -/
noncomputable abbrev run (Γ : Gam) (i : Nat) : Stmt := stmtAt (forBody (stmtAt (stmtsOf (fdOf Γ 120)) 6)) i
theorem LL_get {k : Nat} (hk : k < 10) : (LL threes)[k]? = some (.list ((threes.getD k []).map .int)) := by
  have hl : k < threes.length := hk
  rw [LL, List.getElem?_map, List.getElem?_eq_getElem hl, List.getD_eq_getElem?_getD, List.getElem?_eq_getElem hl]; rfl
theorem T10 : (intsV 0 10).length = 10 := rfl

end

section
open PySem PySem.Calls PyProof.Rows PySem.W

set_option maxHeartbeats 4000000 in
theorem ex_held {Γ : Gam} {n L} {Q : Fl → St → Prop} (G : Grd Γ (K0 Γ)) {loc : List (Str × V)} {B : List O} {pin rowV dotV hd o6 o7 o8} {row : List Int} {a : Nat}
    (h : Q .next { loc := loc, cl := clR B.length, heap := B ++ [.cell (some (.list (LL threes))), .cell rowV, .cell dotV, .cell (some (.int (row.getD a 0))), .cell (some (.int (row.getD (a + 1) 0))), .cell (some (.list ((heldN row a).map fun (k : Nat) => V.int k))), o6, o7, o8], pin := pin }) :
    Ex Γ (n + 3) (callEnvC (fdOf Γ 120) L 120) { loc := loc, cl := clR B.length, heap := B ++ [.cell (some (.list (LL threes))), .cell rowV, .cell dotV, .cell (some (.int (row.getD a 0))), .cell (some (.int (row.getD (a + 1) 0))), .cell hd, o6, o7, o8], pin := pin } (run Γ 8) Q := by
  refine Ex.assign (by rfl) ?_
  refine Ev.comp ⟨fun _ => rfl, by kernel_rfl, by kernel_rfl, rfl, by kernel_rfl⟩ ?_
  unfold Cmp
  refine Ev.call ?_
  refine Ev.bui (G.gb rfl boot_range (by decide)) rfl rfl rfl (by kernel_rfl) (by kernel_rfl) ?_
  refine ⟨_, rfl, KP.type, ?_⟩
  refine Arg.cons ?_
  refine Ev.int ?_
  refine Arg.nil ?_
  with_reducible refine Cal.range1 ?_
  refine ⟨_, Itr.rng (by decide) (by decide) (by decide) (by decide), ?_⟩
  refine cmp2 [("threes", B.length), ("left", B.length + 3), ("right", B.length + 4)] (by rfl) (by (first | (simp only [setB, setB0, List.append_assoc, List.cons_append, List.nil_append, List.set_cons_zero, List.set_cons_succ]; rfl) | rfl)) (by ((simp only [List.length_append, List.length_cons, List.length_nil, Nat.zero_add, Nat.reduceAdd]; try rfl))) fun C => ?_
  refine CL.last (by rfl) (by rfl) (fun j => At [("threes", B.length), ("left", B.length + 3), ("right", B.length + 4)] (B ++ [.cell (some (.list (LL threes))), .cell rowV, .cell dotV, .cell (some (.int (row.getD a 0))), .cell (some (.int (row.getD (a + 1) 0))), .cell hd, o6, o7, o8, .list (((List.range j).filter (isHeld row a)).map fun (k : Nat) => V.int k)]) pin) ⟨rfl, rfl, rfl⟩ ?_ ?_
  · rintro j ⟨loc, _, _, _⟩ u ⟨rfl, rfl, rfl⟩ hu
    obtain ⟨hj, rfl⟩ := intsV_at hu
    have hj' : j < 10 := by simpa using hj
    refine Asg.name ?_
    refine Sto.loc (by kernel_rfl) (by kernel_rfl) ?_
    refine Ifs.one ?_
    refine Tst.and ?_
    refine Tst.cmp (by kernel_rfl) ?_
    refine Ev.cel rfl (by (first | assumption | (simp only [getB, getB0, List.append_assoc, List.cons_append, List.nil_append]; rfl) | rfl)) rfl (by kernel_rfl) (by kernel_rfl) ?_
    refine Ev.sub ?_
    refine Ev.cel rfl (by (first | assumption | (simp only [getB, getB0, List.append_assoc, List.cons_append, List.nil_append]; rfl) | rfl)) rfl (by kernel_rfl) (by kernel_rfl) ?_
    refine Ev.loc (by (repeat (first | assumption | with_reducible exact lk0 | with_reducible refine lkb (by kernel_rfl) ?_ | simp only [List.reverse_cons, List.reverse_nil, List.nil_append, List.cons_append]))) rfl (by kernel_rfl) (by kernel_rfl) ?_
    refine Op2.itemL (x := .list ((threes.getD j []).map .int)) (fun _ _ => rfl) (by (first | exact .inl rfl | exact .inr ⟨_, rfl, by (first | assumption | (simp only [getB, getB0, List.append_assoc, List.cons_append, List.nil_append]; rfl) | rfl)⟩)) (by omega) (by rw [show ((0 : Int) + (j : Int)).toNat = j by omega]; exact LL_get hj') (by omega) ?_
    refine Op2.inI (.inl rfl) ?_
    by_cases c1 : row.getD a 0 ∈ threes.getD j []
    · rw [decide_eq_true c1]
      refine ⟨_, rfl, ?_⟩
      rw [if_pos rfl]
      refine Tst.and ?_
      refine Tst.cmp (by kernel_rfl) ?_
      refine Ev.cel rfl (by (first | assumption | (simp only [getB, getB0, List.append_assoc, List.cons_append, List.nil_append]; rfl) | rfl)) rfl (by kernel_rfl) (by kernel_rfl) ?_
      refine Ev.sub ?_
      refine Ev.cel rfl (by (first | assumption | (simp only [getB, getB0, List.append_assoc, List.cons_append, List.nil_append]; rfl) | rfl)) rfl (by kernel_rfl) (by kernel_rfl) ?_
      refine Ev.loc (by (repeat (first | assumption | with_reducible exact lk0 | with_reducible refine lkb (by kernel_rfl) ?_ | simp only [List.reverse_cons, List.reverse_nil, List.nil_append, List.cons_append]))) rfl (by kernel_rfl) (by kernel_rfl) ?_
      refine Op2.itemL (x := .list ((threes.getD j []).map .int)) (fun _ _ => rfl) (by (first | exact .inl rfl | exact .inr ⟨_, rfl, by (first | assumption | (simp only [getB, getB0, List.append_assoc, List.cons_append, List.nil_append]; rfl) | rfl)⟩)) (by omega) (by rw [show ((0 : Int) + (j : Int)).toNat = j by omega]; exact LL_get hj') (by omega) ?_
      refine Op2.inI (.inl rfl) ?_
      by_cases c2 : row.getD (a + 1) 0 ∈ threes.getD j []
      · rw [decide_eq_true c2]
        refine ⟨_, rfl, ?_⟩
        rw [if_pos rfl]
        refine Tst.andNil ?_
        rw [if_pos rfl]
        refine Ev.loc (by (repeat (first | assumption | with_reducible exact lk0 | with_reducible refine lkb (by kernel_rfl) ?_ | simp only [List.reverse_cons, List.reverse_nil, List.nil_append, List.cons_append]))) rfl (by kernel_rfl) (by kernel_rfl) ?_
        refine ⟨_, by (first | assumption | (simp only [getB, getB0, List.append_assoc, List.cons_append, List.nil_append]; rfl) | rfl), ?_, rfl, ?_, rfl⟩
        · simp only [List.length_map]
          exact Nat.le_trans (List.length_filter_le _ _) (by simp; omega)
        · simp only [setB, List.set_cons_zero, List.set_cons_succ, filt_succ]
          rw [if_pos (show isHeld row a j = true from by rw [isHeld, decide_eq_true c1, decide_eq_true c2]; rfl), Int.zero_add]
      · rw [decide_eq_false c2]
        refine ⟨_, rfl, ?_⟩
        rw [if_neg (by decide)]
        rw [if_neg (by decide)]
        refine ⟨rfl, ?_, rfl⟩
        rw [filt_succ, if_neg (show ¬ isHeld row a j = true from by rw [isHeld, decide_eq_false c2, Bool.and_false]; simp), List.append_nil]
    · rw [decide_eq_false c1]
      refine ⟨_, rfl, ?_⟩
      rw [if_neg (by decide)]
      rw [if_neg (by decide)]
      refine ⟨rfl, ?_, rfl⟩
      rw [filt_succ, if_neg (show ¬ isHeld row a j = true from by rw [isHeld, decide_eq_false c1, Bool.false_and]; simp), List.append_nil]
  · rintro ⟨loc, _, _, _⟩ ⟨rfl, rfl, rfl⟩
    refine ⟨(heldN row a).map fun (k : Nat) => V.int k, ?_, Fzs.map _ (fun k => .int _) _, ?_⟩
    · simp only [List.append_assoc, List.cons_append, List.nil_append]
      rfl
    refine Sto.cel2 rfl (by (first | assumption | (simp only [getB, getB0, List.append_assoc, List.cons_append, List.nil_append]; rfl) | rfl)) rfl (by kernel_rfl) (by (first | (simp only [setB, setB0, List.append_assoc, List.cons_append, List.nil_append, List.set_cons_zero, List.set_cons_succ]; rfl) | rfl)) ?_
    exact h

end

section
open PySem PySem.Calls PyProof.Rows PySem.W

noncomputable def xS : Str := ⟨#[120]⟩
noncomputable def rowL (row : List Int) (a k : Nat) : List Nat := if isHeld row a k = true then List.replicate (1 + gone row k) 46 ++ [120] else 120 :: List.replicate (1 + gone row k) 46
noncomputable def rowS (row : List Int) (a k : Nat) : Str := if isHeld row a k = true then dot (1 + gone row k) ++ xS else xS ++ dot (1 + gone row k)
noncomputable def rowsL (row : List Int) (a : Nat) : List (List Nat) := (List.range 10).map (rowL row a)
theorem gone_le (row : List Int) (k : Nat) : gone row k ≤ 3 := by unfold gone; split <;> split <;> split <;> omega
theorem cat_toList (x y : Str) : (x ++ y).cps.toList = x.cps.toList ++ y.cps.toList := by
  show (x.cps ++ y.cps).toList = _
  simp
theorem rowS_L (row : List Int) (a k : Nat) : (rowS row a k).cps.toList = rowL row a k := by
  unfold rowS rowL
  split
  · rw [cat_toList]; simp [dot, xS]
  · rw [cat_toList]; simp [dot, xS]
theorem rowL_len (row : List Int) (a k : Nat) : (rowL row a k).length ≤ 5 := by
  have := gone_le row k
  unfold rowL; split <;> simp <;> omega
theorem rowL_ok (row : List Int) (a k : Nat) : RowOk (rowL row a k) := by
  unfold rowL
  split
  · refine ⟨by simp, fun c h => ?_⟩
    rcases List.mem_append.mp h with h | h
    · exact .inl (List.eq_of_mem_replicate h)
    · exact .inr (by simpa using h)
  · refine ⟨by simp, fun c h => ?_⟩
    rcases List.mem_cons.mp h with h | h
    · exact .inr h
    · exact .inl (List.eq_of_mem_replicate h)
theorem strip1 : ∀ m ∈ List.range 5, Txt.stripChars ⟨(dd (List.replicate (1 + m) 46 ++ [120])).toArray⟩ xS = dot (1 + (m + 1)) := by decide +kernel
theorem strip2 : ∀ m ∈ List.range 5, Txt.stripChars ⟨(dd (120 :: List.replicate (1 + m) 46)).toArray⟩ xS = dot (1 + m) := by decide +kernel
theorem stripRow {row : List Int} {a k : Nat} (hr : row ∈ perms) (ha : a ∈ spotsN row) (hk : k < 10) : Txt.stripChars ⟨(dd (rowL row a k)).toArray⟩ xS = dot (1 + gone (swp row a) k) := by
  have hg := gone_le row k
  obtain ⟨e1, e2⟩ := edges2 row hr a ha k (List.mem_range.mpr hk)
  unfold rowL
  cases h : isHeld row a k
  · rw [if_neg (by simp), (e2 h).1]; exact strip2 _ (List.mem_range.mpr (by omega))
  · rw [if_pos rfl, (e1 h).1]; exact strip1 _ (List.mem_range.mpr (by omega))
theorem sum_le {B : Nat} : ∀ {l : List Nat}, (∀ x ∈ l, x ≤ B) → l.sum ≤ l.length * B
  | [], _ => by simp
  | x :: l, h => by
    have h1 := h x List.mem_cons_self
    have h2 := sum_le (l := l) fun y hy => h y (List.mem_cons_of_mem _ hy)
    rw [List.sum_cons, List.length_cons, Nat.succ_mul]; omega
theorem map_succ {α : Type} (g : Nat → α) (j : Nat) : (List.range (j + 1)).map g = (List.range j).map g ++ [g j] := by rw [List.range_succ, List.map_append]; rfl
theorem in_held {row : List Int} {a k : Nat} (hk : k < 10) : decide ((k : Int) ∈ (heldN row a).map fun (k : Nat) => (k : Int)) = isHeld row a k := by
  rw [Bool.eq_iff_iff, decide_eq_true_iff, List.mem_map]
  constructor
  · rintro ⟨x, hx, e⟩
    obtain rfl : x = k := by omega
    exact (List.mem_filter.mp hx).2
  · intro h
    exact ⟨k, List.mem_filter.mpr ⟨List.mem_range.mpr hk, h⟩, rfl⟩
theorem heldV (row : List Int) (a : Nat) : ((heldN row a).map fun (k : Nat) => V.int k) = ((heldN row a).map fun (k : Nat) => (k : Int)).map V.int := by rw [List.map_map]; rfl
theorem dotsV_get {row : List Int} {k : Nat} (hk : k < 10) : (dotsV row)[k]? = some (.str (dot (1 + gone row k))) := by
  unfold dotsV; rw [List.getElem?_map, List.getElem?_range hk]; rfl
theorem dot_len (m : Nat) : (dot m).length = m := by simp [dot, Str.length]

theorem xS_eq : Str.ofString "x" = xS := by decide +kernel
set_option maxHeartbeats 4000000 in
theorem ex_mail {Γ : Gam} {n L} {Q : Fl → St → Prop} (G : Grd Γ (K0 Γ)) {loc : List (Str × V)} {B : List O} {pin thV rowV lf rt o6 o7 o8} {row : List Int} {a : Nat} {e : Str} (he : e.length ≤ 2) (hloc : loc.lookup ("end" : Str) = some (.str e))
    (h : ∀ z : Str, z.cps.toList = jl e.cps.toList (rowsL row a) → Q .next { loc := ("mail", .str z) :: loc, cl := clR B.length, heap := B ++ [.cell thV, .cell rowV, .cell (some (.list (dotsV row))), .cell lf, .cell rt, .cell (some (.list ((heldN row a).map fun (k : Nat) => V.int k))), o6, o7, o8], pin := pin }) :
    Ex Γ (n + 3) (callEnvC (fdOf Γ 120) L 120) { loc := loc, cl := clR B.length, heap := B ++ [.cell thV, .cell rowV, .cell (some (.list (dotsV row))), .cell lf, .cell rt, .cell (some (.list ((heldN row a).map fun (k : Nat) => V.int k))), o6, o7, o8], pin := pin } (run Γ 9) Q := by
  refine Ex.assign (by rfl) ?_
  refine Ev.mth F.plainAttrs_str F.slot_str_join F.type_str_join rfl (by kernel_rfl) (by kernel_rfl) ?_
  refine Ev.loc (by (repeat (first | assumption | with_reducible exact lk0 | with_reducible refine lkb (by kernel_rfl) ?_ | simp only [List.reverse_cons, List.reverse_nil, List.nil_append, List.cons_append]))) rfl (by kernel_rfl) (by kernel_rfl) ?_
  refine ⟨TyIs.str, ?_⟩
  refine Arg.cons ?_
  refine Ev.comp ⟨fun _ => rfl, by kernel_rfl, by kernel_rfl, rfl, by kernel_rfl⟩ ?_
  unfold Cmp
  refine Ev.call ?_
  refine Ev.bui (G.gb rfl boot_range (by decide)) rfl rfl rfl (by kernel_rfl) (by kernel_rfl) ?_
  refine ⟨_, rfl, KP.type, ?_⟩
  refine Arg.cons ?_
  refine Ev.int ?_
  refine Arg.nil ?_
  with_reducible refine Cal.range1 ?_
  refine ⟨_, Itr.rng (by decide) (by decide) (by decide) (by decide), ?_⟩
  refine cmp2 [("dots", B.length + 2), ("held", B.length + 5)] (by rfl) (by (first | (simp only [setB, setB0, List.append_assoc, List.cons_append, List.nil_append, List.set_cons_zero, List.set_cons_succ]; rfl) | rfl)) (by ((simp only [List.length_append, List.length_cons, List.length_nil, Nat.zero_add, Nat.reduceAdd]; try rfl))) fun C => ?_
  refine CL.last (by rfl) (by rfl) (fun j => At [("dots", B.length + 2), ("held", B.length + 5)] (B ++ [.cell thV, .cell rowV, .cell (some (.list (dotsV row))), .cell lf, .cell rt, .cell (some (.list ((heldN row a).map fun (k : Nat) => V.int k))), o6, o7, o8, .list ((List.range j).map fun (k : Nat) => V.str (rowS row a k))]) pin) ⟨rfl, rfl, rfl⟩ ?_ ?_
  · rintro j ⟨loc, _, _, _⟩ u ⟨rfl, rfl, rfl⟩ hu
    obtain ⟨hj, rfl⟩ := intsV_at hu
    have hj' : j < 10 := by simpa using hj
    have hg := gone_le row j
    rw [show (0 : Int) + (j : Int) = j by omega]
    refine Asg.name ?_
    refine Sto.loc (by kernel_rfl) (by kernel_rfl) ?_
    refine Ifs.nil ?_
    rw [if_pos rfl]
    refine Ev.ifexp ?_
    refine Tst.cmp (by kernel_rfl) ?_
    refine Ev.loc (by (repeat (first | assumption | with_reducible exact lk0 | with_reducible refine lkb (by kernel_rfl) ?_ | simp only [List.reverse_cons, List.reverse_nil, List.nil_append, List.cons_append]))) rfl (by kernel_rfl) (by kernel_rfl) ?_
    refine Ev.cel rfl (by (first | assumption | (simp only [getB, getB0, List.append_assoc, List.cons_append, List.nil_append]; rfl) | rfl)) rfl (by kernel_rfl) (by kernel_rfl) ?_
    refine Op2.inI (ns := (heldN row a).map fun (k : Nat) => (k : Int)) (.inl (heldV row a ▸ rfl)) ?_
    rw [in_held hj']
    cases hh : isHeld row a j
    · refine ⟨_, rfl, ?_⟩
      rw [if_neg (by decide)]
      refine Ev.binop ?_
      refine Ev.str ?_
      refine Ev.sub ?_
      refine Ev.cel rfl (by (first | assumption | (simp only [getB, getB0, List.append_assoc, List.cons_append, List.nil_append]; rfl) | rfl)) rfl (by kernel_rfl) (by kernel_rfl) ?_
      refine Ev.loc (by (repeat (first | assumption | with_reducible exact lk0 | with_reducible refine lkb (by kernel_rfl) ?_ | simp only [List.reverse_cons, List.reverse_nil, List.nil_append, List.cons_append]))) rfl (by kernel_rfl) (by kernel_rfl) ?_
      refine Op2.itemL (x := .str (dot (1 + gone row j))) (fun _ _ => rfl) (by (first | exact .inl rfl | exact .inr ⟨_, rfl, by (first | assumption | (simp only [getB, getB0, List.append_assoc, List.cons_append, List.nil_append]; rfl) | rfl)⟩)) (by omega) (dotsV_get hj') (by omega) ?_
      refine Op2.addS (by rw [dot_len, sizeLine_eq, xS_eq]; show 1 + _ ≤ _; omega) ?_
      refine ⟨_, by (first | assumption | (simp only [getB, getB0, List.append_assoc, List.cons_append, List.nil_append]; rfl) | rfl), by simp; omega, rfl, ?_, rfl⟩
      simp only [setB, List.set_cons_zero, List.set_cons_succ, map_succ]
      rw [show rowS row a j = xS ++ dot (1 + gone row j) from by rw [rowS, if_neg (by simp [hh])], xS_eq]
    · refine ⟨_, rfl, ?_⟩
      rw [if_pos rfl]
      refine Ev.binop ?_
      refine Ev.sub ?_
      refine Ev.cel rfl (by (first | assumption | (simp only [getB, getB0, List.append_assoc, List.cons_append, List.nil_append]; rfl) | rfl)) rfl (by kernel_rfl) (by kernel_rfl) ?_
      refine Ev.loc (by (repeat (first | assumption | with_reducible exact lk0 | with_reducible refine lkb (by kernel_rfl) ?_ | simp only [List.reverse_cons, List.reverse_nil, List.nil_append, List.cons_append]))) rfl (by kernel_rfl) (by kernel_rfl) ?_
      refine Op2.itemL (x := .str (dot (1 + gone row j))) (fun _ _ => rfl) (by (first | exact .inl rfl | exact .inr ⟨_, rfl, by (first | assumption | (simp only [getB, getB0, List.append_assoc, List.cons_append, List.nil_append]; rfl) | rfl)⟩)) (by omega) (dotsV_get hj') (by omega) ?_
      refine Ev.str ?_
      refine Op2.addS (by rw [dot_len, sizeLine_eq, xS_eq]; show _ + 1 ≤ _; omega) ?_
      refine ⟨_, by (first | assumption | (simp only [getB, getB0, List.append_assoc, List.cons_append, List.nil_append]; rfl) | rfl), by simp; omega, rfl, ?_, rfl⟩
      simp only [setB, List.set_cons_zero, List.set_cons_succ, map_succ]
      rw [show rowS row a j = dot (1 + gone row j) ++ xS from by rw [rowS, if_pos hh], xS_eq]
  · rintro ⟨loc, _, _, _⟩ ⟨rfl, rfl, rfl⟩
    refine ⟨(List.range 10).map fun (k : Nat) => V.str (rowS row a k), ?_, Fzs.map _ (fun k => .str _) _, ?_⟩
    · simp only [List.append_assoc, List.cons_append, List.nil_append]
      rfl
    have hxs : ∀ y ∈ ((List.range 10).map (rowS row a)).map (·.length), y ≤ 5 := fun y hy => by
      obtain ⟨x, hx, rfl⟩ := List.mem_map.mp hy
      obtain ⟨k, _, rfl⟩ := List.mem_map.mp hx
      have h1 := rowL_len row a k
      rw [← rowS_L] at h1
      simpa [Str.length] using h1
    have hsum := sum_le hxs
    refine Arg.nil ?_
    refine Cal.join (xs := (List.range 10).map (rowS row a)) (.inl (by rw [List.map_map]; rfl)) (by omega) (by simp only [List.length_map, List.length_range] at hsum ⊢; omega) ?_
    refine Sto.loc (by kernel_rfl) (by kernel_rfl) ?_
    refine h _ ?_
    rw [join_jl, List.map_map]
    exact congrArg (jl _) (List.map_congr_left fun k _ => rowS_L row a k)

end

section
open PySem PySem.Calls PyProof.Rows PySem.W

set_option maxHeartbeats 4000000 in
theorem ex_dots {Γ : Gam} {n L} {Q : Fl → St → Prop} (G : Grd Γ (K0 Γ)) {loc : List (Str × V)} {B : List O} {pin thV rowV dotV lf rt hd o6 o7 o8} {row : List Int} {a : Nat} {z : Str} {sep : List Nat} (hsep : sep = [10] ∨ sep = [13] ∨ sep = [13, 10]) (hr : row ∈ perms) (ha : a ∈ spotsN row)
    (hloc : loc.lookup ("mail" : Str) = some (.str z)) (hz : z.cps.toList = jl sep (rowsL row a))
    (h : Q .next { loc := loc, cl := clR B.length, heap := B ++ [.cell thV, .cell rowV, .cell (some (.list (dotsV (swp row a)))), .cell lf, .cell rt, .cell hd, o6, o7, o8], pin := pin }) :
    Ex Γ (n + 3) (callEnvC (fdOf Γ 120) L 120) { loc := loc, cl := clR B.length, heap := B ++ [.cell thV, .cell rowV, .cell dotV, .cell lf, .cell rt, .cell hd, o6, o7, o8], pin := pin } (run Γ 10) Q := by
  refine Ex.assign (by rfl) ?_
  refine Ev.comp ⟨fun _ => rfl, by kernel_rfl, by kernel_rfl, rfl, by kernel_rfl⟩ ?_
  unfold Cmp
  refine Ev.mth F.plainAttrs_str F.slot_str_split F.type_str_split rfl (by kernel_rfl) (by kernel_rfl) ?_
  refine Ev.call ?_
  refine Ev.glo (G.gv rfl) (fun _ _ _ => .val _) rfl rfl (by kernel_rfl) (by kernel_rfl) ?_
  refine ⟨_, rfl, (KP.fn (G.K _ _ rfl) rfl), ?_⟩
  refine Arg.cons ?_
  refine Ev.loc (by (repeat (first | assumption | with_reducible exact lk0 | with_reducible refine lkb (by kernel_rfl) ?_ | simp only [List.reverse_cons, List.reverse_nil, List.nil_append, List.cons_append]))) rfl (by kernel_rfl) (by kernel_rfl) ?_
  refine Arg.nil ?_
  have hlen : (rowsL row a).length = 10 := by simp [rowsL]
  have hrow : ∀ r ∈ rowsL row a, ∃ k, k < 10 ∧ r = rowL row a k := fun r hr => by
    obtain ⟨k, hk, rfl⟩ := List.mem_map.mp hr
    exact ⟨k, List.mem_range.mp hk, rfl⟩
  refine quotedata G hsep (by rw [← List.length_pos_iff, hlen]; decide) (fun r hr => by obtain ⟨k, _, rfl⟩ := hrow r hr; exact rowL_ok _ _ _) (fun r hr => by obtain ⟨k, _, rfl⟩ := hrow r hr; have := rowL_len row a k; omega) (by omega) hz fun y hy => ?_
  refine ⟨TyIs.str, ?_⟩
  refine Arg.cons ?_
  refine Ev.str ?_
  refine Arg.nil ?_
  have hle : ∀ r ∈ (rowsL row a).map dd, r.length ≤ 6 := fun r hr => by
    obtain ⟨r, hr', rfl⟩ := List.mem_map.mp hr
    obtain ⟨k, _, rfl⟩ := hrow r hr'
    have h1 := rowL_len row a k
    have h2 := dd_len (rowL row a k)
    omega
  have hyl := jl_le (sep := [13, 10]) hle
  rw [← hy] at hyl
  refine Cal.splitRows (rows := (rowsL row a).map dd) (by simp [hlen]) (fun r hr => by
    obtain ⟨r, hr', rfl⟩ := List.mem_map.mp hr
    obtain ⟨k, _, rfl⟩ := hrow r hr'
    exact dd_ok (rowL_ok _ _ _)) hy (by simp [hlen] at hyl; simp [Str.length]; omega) (by simp [hlen]) ?_
  refine ⟨_, Itr.list (by simp [hlen]), ?_⟩
  refine cmp2 [] (by rfl) (by (first | (simp only [setB, setB0, List.append_assoc, List.cons_append, List.nil_append, List.set_cons_zero, List.set_cons_succ]; rfl) | rfl)) (by ((simp only [List.length_append, List.length_cons, List.length_nil, Nat.zero_add, Nat.reduceAdd]; try rfl))) fun C => ?_
  refine CL.last (by rfl) (by rfl) (fun j => At [] (B ++ [.cell thV, .cell rowV, .cell dotV, .cell lf, .cell rt, .cell hd, o6, o7, o8, .list ((List.range j).map fun (k : Nat) => V.str (dot (1 + gone (swp row a) k)))]) pin) ⟨rfl, rfl, rfl⟩ ?_ ?_
  · rintro j ⟨loc, _, _, _⟩ u ⟨rfl, rfl, rfl⟩ hu
    obtain ⟨hj, rfl⟩ : j < 10 ∧ u = .str ⟨(dd (rowL row a j)).toArray⟩ := by
      rw [List.map_map, rowsL, List.map_map, List.getElem?_map] at hu
      rcases Nat.lt_or_ge j 10 with hj | hj
      · rw [List.getElem?_range hj] at hu
        exact ⟨hj, by simpa using hu.symm⟩
      · rw [List.getElem?_eq_none (by simpa using hj)] at hu; simp at hu
    have hl := hle (dd (rowL row a j)) (List.mem_map_of_mem (List.mem_map_of_mem (List.mem_range.mpr hj)))
    refine Asg.name ?_
    refine Sto.loc (by kernel_rfl) (by kernel_rfl) ?_
    refine Ifs.nil ?_
    rw [if_pos rfl]
    refine Ev.mth F.plainAttrs_str F.slot_str_strip F.type_str_strip rfl (by kernel_rfl) (by kernel_rfl) ?_
    refine Ev.loc (by (repeat (first | assumption | with_reducible exact lk0 | with_reducible refine lkb (by kernel_rfl) ?_ | simp only [List.reverse_cons, List.reverse_nil, List.nil_append, List.cons_append]))) rfl (by kernel_rfl) (by kernel_rfl) ?_
    refine ⟨TyIs.str, ?_⟩
    refine Arg.cons ?_
    refine Ev.str ?_
    refine Arg.nil ?_
    refine Cal.strip (by simp [Str.length]; omega) ?_
    refine ⟨_, by (first | assumption | (simp only [getB, getB0, List.append_assoc, List.cons_append, List.nil_append]; rfl) | rfl), by simp; omega, rfl, ?_, rfl⟩
    simp only [setB, List.set_cons_zero, List.set_cons_succ, map_succ]
    rw [xS_eq, stripRow hr ha hj]
  · rintro ⟨loc, _, _, _⟩ ⟨rfl, rfl, rfl⟩
    refine ⟨dotsV (swp row a), ?_, Fzs.map _ (fun k => .str _) _, ?_⟩
    · simp only [List.append_assoc, List.cons_append, List.nil_append, List.length_map, hlen]
      rfl
    refine Sto.cel2 rfl (by (first | assumption | (simp only [getB, getB0, List.append_assoc, List.cons_append, List.nil_append]; rfl) | rfl)) rfl (by kernel_rfl) (by (first | (simp only [setB, setB0, List.append_assoc, List.cons_append, List.nil_append, List.set_cons_zero, List.set_cons_succ]; rfl) | rfl)) ?_
    exact h

end

section
open PySem PySem.Calls PyProof.Rows PySem.W

/-- the names' values that a turn keeps -/
noncomputable def Lks (B : Nat) (ns : List Int) (e : Str) (loc : List (Str × V)) : Prop := loc.lookup ("numbers" : Str) = some (.list (ns.map .int)) ∧ loc.lookup ("end" : Str) = some (.str e) ∧ loc.lookup ("spots" : Str) = some (.obj (B + 6)) ∧ loc.lookup ("sides" : Str) = some (.obj (B + 7)) ∧ loc.lookup ("times" : Str) = some (.obj (B + 8))
theorem fin_of {x : UInt64} {v : Int} (h : finOf x = some v) : ∃ sg m e, Float64.decode x = .fin sg m e ∧ Float64.truncOf sg m e = v := by
  unfold finOf at h
  split at h
  · rename_i sg m e hd; exact ⟨sg, m, e, hd, Option.some.inj h⟩
  · simp at h
theorem idx_of {x : Int} : ∀ {l : List Int}, x ∈ l → l[l.idxOf x]? = some x ∧ ∀ m, m < l.idxOf x → l[m]? ≠ some x
  | y :: l, h => by
    rw [List.idxOf_cons]
    by_cases e : y = x
    · subst e
      simp
    · rw [show (y == x) = false from beq_eq_false_iff_ne.mpr e]
      have ih := idx_of (l := l) ((List.mem_cons.mp h).resolve_left fun z => e z.symm)
      refine ⟨by simpa using ih.1, fun m hm => ?_⟩
      cases m with
      | zero => simp [e]
      | succ m => simpa using ih.2 m (by simpa using hm)
/-- the sides after a turn -/
noncomputable def upS (row : List Int) (a : Nat) (f : Nat → Int) (k : Nat) : Int := if isHeld row a k = true ∧ gone (swp row a) k = 1 then six (swp row a) k else f k
theorem held_get {row : List Int} {a j : Nat} {u : V} (h : ((heldN row a).map fun (k : Nat) => V.int k)[j]? = some u) : ∃ k, (heldN row a)[j]? = some k ∧ u = .int k ∧ k < 10 ∧ isHeld row a k = true := by
  rw [List.getElem?_map] at h
  cases e : (heldN row a)[j]? with
  | none => rw [e] at h; simp at h
  | some k =>
    rw [e] at h
    have hm := List.mem_filter.mp (List.mem_of_getElem? e)
    exact ⟨k, rfl, by simpa using h.symm, List.mem_range.mp hm.1, hm.2⟩
theorem getD_set {l : List Int} {k m : Nat} {v : Int} (hk : k < l.length) : (l.set k v).getD m 0 = if m = k then v else l.getD m 0 := by
  simp only [List.getD_eq_getElem?_getD, List.getElem?_set]
  by_cases h : m = k
  · subst h; simp [hk]
  · rw [if_neg h, if_neg (fun z => h z.symm)]
noncomputable def tripV (k : Nat) : List V := (threes.getD k []).map V.int
theorem trip_get {k j : Nat} {u : V} (hk : k < 10) (h : (tripV k)[j]? = some u) : j < 3 ∧ u = .int (tw k j) ∧ tw k j ∈ [(0 : Int), 1, 2, 3, 4] := by
  obtain ⟨e1, e2, e3, e4⟩ := triW k (List.mem_range.mpr hk)
  rw [tripV, e1] at h
  match j, h with
  | 0, h => exact ⟨by omega, by simpa using h.symm, e2⟩
  | 1, h => exact ⟨by omega, by simpa using h.symm, e3⟩
  | 2, h => exact ⟨by omega, by simpa using h.symm, e4⟩
  | j + 3, h => simp at h

theorem five_mem : ∀ m : Nat, m < 5 → (m : Int) ∈ [(0 : Int), 1, 2, 3, 4] := by decide
theorem hue_ok {row : List Int} {k : Nat} (hr : row ∈ perms) (hk : k < 10) (hg : 0 < gone row k) :
    ((Float64.cmp (mnF (fl8 (ix row (tw k 0))) (fl8 (ix row (tw k 1))) (fl8 (ix row (tw k 2)))) (mxF (fl8 (ix row (tw k 0))) (fl8 (ix row (tw k 1))) (fl8 (ix row (tw k 2)))) == some .eq) = false ∧ Float64.isZero (mxF (fl8 (ix row (tw k 0))) (fl8 (ix row (tw k 1))) (fl8 (ix row (tw k 2)))) = false ∧ Float64.isZero (raF (fl8 (ix row (tw k 0))) (fl8 (ix row (tw k 1))) (fl8 (ix row (tw k 2)))) = false) ∧
    finOf (hue6 (ix row (tw k 0)) (ix row (tw k 1)) (ix row (tw k 2))) = some (sixT (ix row (tw k 0)) (ix row (tw k 1)) (ix row (tw k 2))) := by
  obtain ⟨d1, d2, d3, d4⟩ := triDiff _ hr k (List.mem_range.mpr hk)
  obtain ⟨_, t2, t3, t4⟩ := triW k (List.mem_range.mpr hk)
  have p0 := five_mem _ (rows3 _ hr _ t2).2
  have p1 := five_mem _ (rows3 _ hr _ t3).2
  have p2 := five_mem _ (rows3 _ hr _ t4).2
  have i1 := fun z => d1 (Int.ofNat_inj.mp z)
  have i2 := fun z => d2 (Int.ofNat_inj.mp z)
  have i3 := fun z => d3 (Int.ofNat_inj.mp z)
  exact ⟨hues _ p0 _ p1 _ p2 i1 i2 i3, hues2 _ p0 _ p1 _ p2 i1 i2 i3 fun z => d4 hg ⟨Int.ofNat_lt.mp z.1, Int.ofNat_lt.mp z.2⟩⟩
theorem g23 {g r : Nat} (h1 : g = r + 1) (h2 : g ≤ 3) (h : ¬ g = 1) : g = 2 ∨ g = 3 := by omega
theorem beq1 {g : Nat} (h : g = 1) : ((g : Int) == 1) = true := by subst h; rfl
theorem bne1 {g : Nat} (h : ¬ g = 1) : ¬ ((g : Int) == 1) = true := fun z => h (Int.ofNat_inj.mp (beq_iff_eq.mp z))
theorem one_less (g : Nat) : ((1 + g : Nat) : Int) - 1 = (g : Int) := by omega

set_option maxHeartbeats 4000000 in
theorem ex_check {Γ : Gam} {n L} {Q : Fl → St → Prop} (G : Grd Γ (K0 Γ)) {loc : List (Str × V)} {B : List O} {pin c0 c1 c2 c3 c4 c5 o6 o8} {sd : List Int} {k g : Nat} {sx : Int}
    (hsl : sd.length = 10) (hk : k < 10) (hg : g = 1 ∨ g = 2 ∨ g = 3) (hc : sx = (3 + (g : Int) * (sd.getD k 0 - 3)).fmod 6)
    (l1 : loc.lookup ("sixth" : Str) = some (.int sx)) (l2 : loc.lookup ("gone" : Str) = some (.int g)) (l3 : loc.lookup ("k" : Str) = some (.int k)) (l4 : loc.lookup ("sides" : Str) = some (.obj (B.length + 7)))
    (h : Q .next { loc := loc, cl := clR B.length, heap := B ++ [c0, c1, c2, c3, c4, c5, o6, .list (sd.map .int), o8], pin := pin }) :
    Ex Γ (n + 3) (callEnvC (fdOf Γ 120) L 120) { loc := loc, cl := clR B.length, heap := B ++ [c0, c1, c2, c3, c4, c5, o6, .list (sd.map .int), o8], pin := pin } (stmtAt (forBody (run Γ 11)) 4) Q := by
  refine Ex.iff ?_
  refine Tst.cmp (by kernel_rfl) ?_
  refine Ev.loc (by (repeat (first | assumption | with_reducible exact lk0 | with_reducible refine lkb (by kernel_rfl) ?_ | simp only [List.reverse_cons, List.reverse_nil, List.nil_append, List.cons_append]))) rfl (by kernel_rfl) (by kernel_rfl) ?_
  refine Ev.binop ?_
  refine Ev.binop ?_
  refine Ev.int ?_
  refine Ev.binop ?_
  refine Ev.loc (by (repeat (first | assumption | with_reducible exact lk0 | with_reducible refine lkb (by kernel_rfl) ?_ | simp only [List.reverse_cons, List.reverse_nil, List.nil_append, List.cons_append]))) rfl (by kernel_rfl) (by kernel_rfl) ?_
  refine Ev.binop ?_
  refine Ev.sub ?_
  refine Ev.loc (by (repeat (first | assumption | with_reducible exact lk0 | with_reducible refine lkb (by kernel_rfl) ?_ | simp only [List.reverse_cons, List.reverse_nil, List.nil_append, List.cons_append]))) rfl (by kernel_rfl) (by kernel_rfl) ?_
  refine Ev.loc (by (repeat (first | assumption | with_reducible exact lk0 | with_reducible refine lkb (by kernel_rfl) ?_ | simp only [List.reverse_cons, List.reverse_nil, List.nil_append, List.cons_append]))) rfl (by kernel_rfl) (by kernel_rfl) ?_
  refine Op2.itemI (ns := sd) (fun _ _ => rfl) (by (first | exact .inl rfl | exact .inr ⟨_, rfl, by (first | assumption | (simp only [getB, getB0, List.append_assoc, List.cons_append, List.nil_append]; rfl) | rfl)⟩)) (by omega) (by omega) (by omega) ?_
  refine Ev.int ?_
  with_reducible refine Op2.subI ?_
  refine Op2.mulI (IntMulOk.of_left (by rcases hg with rfl | rfl | rfl <;> decide)) ?_
  with_reducible refine Op2.addI ?_
  refine Ev.int ?_
  refine Op2.modI (by decide) ?_
  with_reducible refine Op2.neI ?_
  refine ⟨_, rfl, ?_⟩
  rw [show ((k : Int)).toNat = k from rfl, if_neg (show ¬ (sx != (3 + (g : Int) * (sd.getD k 0 - 3)).fmod 6) = true from fun z => (bne_iff_ne.mp z) hc)]
  refine Exs.nil ?_
  exact h

set_option maxHeartbeats 4000000 in
theorem ex_sides {Γ : Gam} {n L} {Q : Fl → St → Prop} (G : Grd Γ (K0 Γ)) {loc : List (Str × V)} {B : List O} {pin lf rt o6 o8} {row : List Int} {a : Nat} {ns : List Int} {e : Str} {sd : List Int} {f : Nat → Int} (hr : row ∈ perms) (ha : a ∈ spotsN row)
    (hsl : sd.length = 10) (hsd : ∀ k, k < 10 → sd.getD k 0 = f k) (hf : ∀ k, k < 10 → isHeld row a k = true → (gone row k = 1 → f k = way row k) ∧ (gone row k = 2 → f k = 2 ∨ f k = 4))
    (hloc : Lks B.length ns e loc)
    (h : ∀ (loc' : List (Str × V)) (sd' : List Int), sd'.length = 10 → (∀ k, k < 10 → sd'.getD k 0 = upS row a f k) → Lks B.length ns e loc' → Q .next { loc := loc', cl := clR B.length, heap := B ++ [.cell (some (.list (LL threes))), .cell (some (.list ((swp row a).map .int))), .cell (some (.list (dotsV (swp row a)))), .cell lf, .cell rt, .cell (some (.list ((heldN row a).map fun (k : Nat) => V.int k))), o6, .list (sd'.map .int), o8], pin := pin }) :
    Ex Γ (n + 3) (callEnvC (fdOf Γ 120) L 120) { loc := loc, cl := clR B.length, heap := B ++ [.cell (some (.list (LL threes))), .cell (some (.list ((swp row a).map .int))), .cell (some (.list (dotsV (swp row a)))), .cell lf, .cell rt, .cell (some (.list ((heldN row a).map fun (k : Nat) => V.int k))), o6, .list (sd.map .int), o8], pin := pin } (run Γ 11) Q := by
  obtain ⟨_, _, _, e4⟩ := edges _ hr
  obtain ⟨_, hr', _⟩ := e4 a ha
  refine Ex.for (fun _ => rfl) ?_
  refine Ev.cel rfl (by (first | assumption | (simp only [getB, getB0, List.append_assoc, List.cons_append, List.nil_append]; rfl) | rfl)) rfl (by kernel_rfl) (by kernel_rfl) ?_
  have hhl : (heldN row a).length ≤ 10 := Nat.le_trans (List.length_filter_le _ _) (by simp)
  refine ⟨_, Itr.list (by simp; omega), fun (j : Nat) (st' : St) => ∃ sd' : List Int, sd'.length = 10 ∧ (∀ k, k < 10 → sd'.getD k 0 = if k ∈ (heldN row a).take j then upS row a f k else f k) ∧ At (clR B.length) (B ++ [.cell (some (.list (LL threes))), .cell (some (.list ((swp row a).map .int))), .cell (some (.list (dotsV (swp row a)))), .cell lf, .cell rt, .cell (some (.list ((heldN row a).map fun (k : Nat) => V.int k))), o6, .list (sd'.map .int), o8]) pin st' ∧ Lks B.length ns e st'.loc, ⟨sd, hsl, fun k hk => by rw [List.take_zero, if_neg (by simp)]; exact hsd k hk, ⟨rfl, rfl, rfl⟩, hloc⟩, ?_, ?_⟩
  · rintro j ⟨loc, _, _, pin⟩ u ⟨sd, hsl, hsd, ⟨rfl, rfl, rfl⟩, h1, h2, h3, h4, h5⟩ hu
    replace h1 : loc.lookup ("numbers" : Str) = _ := h1
    replace h2 : loc.lookup ("end" : Str) = _ := h2
    replace h3 : loc.lookup ("spots" : Str) = _ := h3
    replace h4 : loc.lookup ("sides" : Str) = _ := h4
    replace h5 : loc.lookup ("times" : Str) = _ := h5
    obtain ⟨k, hjk, rfl, hk, hh⟩ := held_get hu
    refine Asg.name ?_
    refine Sto.loc (by kernel_rfl) (by kernel_rfl) ?_
    refine Exs.cons ?_
    refine Ex.assignC ⟨fun _ => rfl, by kernel_rfl, by kernel_rfl, rfl, by kernel_rfl⟩ (by rfl) ?_
    unfold Cmp
    refine Ev.sub ?_
    refine Ev.cel rfl (by (first | assumption | (simp only [getB, getB0, List.append_assoc, List.cons_append, List.nil_append]; rfl) | rfl)) rfl (by kernel_rfl) (by kernel_rfl) ?_
    refine Ev.loc (by (repeat (first | assumption | with_reducible exact lk0 | with_reducible refine lkb (by kernel_rfl) ?_ | simp only [List.reverse_cons, List.reverse_nil, List.nil_append, List.cons_append]))) rfl (by kernel_rfl) (by kernel_rfl) ?_
    refine Op2.itemL (x := .list (tripV k)) (fun _ _ => rfl) (by (first | exact .inl rfl | exact .inr ⟨_, rfl, by (first | assumption | (simp only [getB, getB0, List.append_assoc, List.cons_append, List.nil_append]; rfl) | rfl)⟩)) (by omega) (LL_get hk) (by omega) ?_
    refine ⟨_, Itr.list (by simp [tripV]; exact Nat.le_trans (Nat.le_of_eq (congrArg List.length (triW k (List.mem_range.mpr hk)).1)) (by simp)), ?_⟩
    refine cmp2 [("row", B.length + 1)] (by rfl) (by (first | (simp only [setB, setB0, List.append_assoc, List.cons_append, List.nil_append, List.set_cons_zero, List.set_cons_succ]; rfl) | rfl)) (by ((simp only [List.length_append, List.length_cons, List.length_nil, Nat.zero_add, Nat.reduceAdd]; try rfl))) fun C => ?_
    refine CL.last (by rfl) (by rfl) (fun m => At [("row", B.length + 1)] (B ++ [.cell (some (.list (LL threes))), .cell (some (.list ((swp row a).map .int))), .cell (some (.list (dotsV (swp row a)))), .cell lf, .cell rt, .cell (some (.list ((heldN row a).map fun (k : Nat) => V.int k))), o6, .list (sd.map .int), o8, .list ((List.range m).map fun (m : Nat) => V.flt (fl8 (ix (swp row a) (tw k m))))]) pin) ⟨rfl, rfl, rfl⟩ ?_ ?_
    · rintro m ⟨loc, _, _, pin⟩ u ⟨rfl, rfl, rfl⟩ hu
      obtain ⟨hm, rfl, hx⟩ := trip_get hk hu
      obtain ⟨hx1, hx2⟩ := rows3 _ hr' _ hx
      obtain ⟨hx3, hx4⟩ := idx_of hx1
      refine Asg.name ?_
      refine Sto.loc (by kernel_rfl) (by kernel_rfl) ?_
      refine Ifs.nil ?_
      rw [if_pos rfl]
      refine Ev.binop ?_
      refine Ev.binop ?_
      refine Ev.int ?_
      refine Ev.mth F.plainAttrs_list F.slot_list_index F.type_list_index rfl (by kernel_rfl) (by kernel_rfl) ?_
      refine Ev.cel rfl (by (first | assumption | (simp only [getB, getB0, List.append_assoc, List.cons_append, List.nil_append]; rfl) | rfl)) rfl (by kernel_rfl) (by kernel_rfl) ?_
      refine ⟨TyIs.list, ?_⟩
      refine Arg.cons ?_
      refine Ev.loc (by (repeat (first | assumption | with_reducible exact lk0 | with_reducible refine lkb (by kernel_rfl) ?_ | simp only [List.reverse_cons, List.reverse_nil, List.nil_append, List.cons_append]))) rfl (by kernel_rfl) (by kernel_rfl) ?_
      refine Arg.nil ?_
      refine Cal.indexI (ns := swp row a) (.inl rfl) (by rw [(edges _ hr').1]; decide) hx3 hx4 ?_
      with_reducible refine Op2.addI ?_
      refine Ev.int ?_
      refine Op2.divI (by decide) ?_ ?_
      · have : List.idxOf (tw k m) (swp row a) < 5 := hx2
        exact Nat.lt_of_lt_of_le (m := 2 ^ 3) (by omega) (Nat.pow_le_pow_right (by decide) (by decide))
      refine ⟨_, by (first | assumption | (simp only [getB, getB0, List.append_assoc, List.cons_append, List.nil_append]; rfl) | rfl), by simp; omega, rfl, ?_, rfl⟩
      simp only [setB, List.set_cons_zero, List.set_cons_succ, map_succ]
      rfl
    · rintro ⟨loc, _, _, pin⟩ ⟨rfl, rfl, rfl⟩
      refine ⟨[.flt (fl8 (ix (swp row a) (tw k 0))), .flt (fl8 (ix (swp row a) (tw k 1))), .flt (fl8 (ix (swp row a) (tw k 2)))], ?_, .cons (.flt _) (.cons (.flt _) (.cons (.flt _) .nil)), ?_⟩
      · simp only [List.append_assoc, List.cons_append, List.nil_append]
        rw [show (tripV k).length = 3 from by rw [tripV, (triW k (List.mem_range.mpr hk)).1]; rfl]
        rfl
      refine Sto.loc (by kernel_rfl) (by kernel_rfl) ?_
      refine Exs.cons ?_
      refine Ex.assign (by rfl) ?_
      refine Ev.call ?_
      refine Ev.bui (G.gb rfl (by first | with_reducible exact boot_range | with_reducible exact boot_len | boot_fact) (by decide)) rfl rfl rfl (by kernel_rfl) (by kernel_rfl) ?_
      refine ⟨_, rfl, KP.type, ?_⟩
      refine Arg.cons ?_
      refine Ev.binop ?_
      refine Ev.sub ?_
      refine Ev.call ?_
      refine Ev.glo (G.gv rfl) (fun _ _ _ => .val _) rfl rfl (by kernel_rfl) (by kernel_rfl) ?_
      refine ⟨_, rfl, (KP.fn (G.K _ _ rfl) rfl), ?_⟩
      refine Arg.cons ?_
      refine Ev.sub ?_
      refine Ev.loc (by (repeat (first | assumption | with_reducible exact lk0 | with_reducible refine lkb (by kernel_rfl) ?_ | simp only [List.reverse_cons, List.reverse_nil, List.nil_append, List.cons_append]))) rfl (by kernel_rfl) (by kernel_rfl) ?_
      refine Ev.int ?_
      refine Op2.itemL (x := .flt (fl8 (ix (swp row a) (tw k 0)))) (fun _ _ => rfl) (by (first | exact .inl rfl | exact .inr ⟨_, rfl, by (first | assumption | (simp only [getB, getB0, List.append_assoc, List.cons_append, List.nil_append]; rfl) | rfl)⟩)) (by omega) rfl (by omega) ?_
      refine Arg.cons ?_
      refine Ev.sub ?_
      refine Ev.loc (by (repeat (first | assumption | with_reducible exact lk0 | with_reducible refine lkb (by kernel_rfl) ?_ | simp only [List.reverse_cons, List.reverse_nil, List.nil_append, List.cons_append]))) rfl (by kernel_rfl) (by kernel_rfl) ?_
      refine Ev.int ?_
      refine Op2.itemL (x := .flt (fl8 (ix (swp row a) (tw k 1)))) (fun _ _ => rfl) (by (first | exact .inl rfl | exact .inr ⟨_, rfl, by (first | assumption | (simp only [getB, getB0, List.append_assoc, List.cons_append, List.nil_append]; rfl) | rfl)⟩)) (by omega) rfl (by omega) ?_
      refine Arg.cons ?_
      refine Ev.sub ?_
      refine Ev.loc (by (repeat (first | assumption | with_reducible exact lk0 | with_reducible refine lkb (by kernel_rfl) ?_ | simp only [List.reverse_cons, List.reverse_nil, List.nil_append, List.cons_append]))) rfl (by kernel_rfl) (by kernel_rfl) ?_
      refine Ev.int ?_
      refine Op2.itemL (x := .flt (fl8 (ix (swp row a) (tw k 2)))) (fun _ _ => rfl) (by (first | exact .inl rfl | exact .inr ⟨_, rfl, by (first | assumption | (simp only [getB, getB0, List.append_assoc, List.cons_append, List.nil_append]; rfl) | rfl)⟩)) (by omega) rfl (by omega) ?_
      refine Arg.nil ?_
      have hg1 := (edges2 row hr a ha k (List.mem_range.mpr hk)).1 hh
      obtain ⟨⟨f1, f2, f3⟩, ff⟩ := hue_ok hr' hk (hg1.1 ▸ Nat.succ_pos _)
      obtain ⟨sg, mm, ee, f4, f5⟩ := fin_of ff
      clear ff
      refine rgb G f1 f2 f3 fun sv vv => ?_
      refine Ev.int ?_
      refine Op2.itemT (x := .flt (hueF (fl8 (ix (swp row a) (tw k 0))) (fl8 (ix (swp row a) (tw k 1))) (fl8 (ix (swp row a) (tw k 2))))) (fun _ _ => rfl) (by decide) (by rfl) (by decide) ?_
      refine Ev.int ?_
      refine Op2.mulFI (by decide) ?_
      refine Arg.nil ?_
      refine Cal.intF f4 ?_
      rw [f5, show sixT (ix (swp row a) (tw k 0)) (ix (swp row a) (tw k 1)) (ix (swp row a) (tw k 2)) = six (swp row a) k from rfl]
      refine Sto.loc (by kernel_rfl) (by kernel_rfl) ?_
      refine Exs.cons ?_
      refine Ex.assign (by rfl) ?_
      refine Ev.binop ?_
      refine Ev.call ?_
      refine Ev.bui (G.gb rfl boot_len (by decide)) rfl rfl rfl (by kernel_rfl) (by kernel_rfl) ?_
      refine ⟨_, rfl, KP.builtin, ?_⟩
      refine Arg.cons ?_
      refine Ev.sub ?_
      refine Ev.cel rfl (by (first | assumption | (simp only [getB, getB0, List.append_assoc, List.cons_append, List.nil_append]; rfl) | rfl)) rfl (by kernel_rfl) (by kernel_rfl) ?_
      refine Ev.loc (by (repeat (first | assumption | with_reducible exact lk0 | with_reducible refine lkb (by kernel_rfl) ?_ | simp only [List.reverse_cons, List.reverse_nil, List.nil_append, List.cons_append]))) rfl (by kernel_rfl) (by kernel_rfl) ?_
      refine Op2.itemL (x := .str (dot (1 + gone (swp row a) k))) (fun _ _ => rfl) (by (first | exact .inl rfl | exact .inr ⟨_, rfl, by (first | assumption | (simp only [getB, getB0, List.append_assoc, List.cons_append, List.nil_append]; rfl) | rfl)⟩)) (by omega) (dotsV_get hk) (by omega) ?_
      refine Arg.nil ?_
      refine Cal.lenS (by rw [dot_len]; omega) ?_
      rw [dot_len]
      refine Ev.int ?_
      with_reducible refine Op2.subI ?_
      refine Sto.loc (by kernel_rfl) (by kernel_rfl) ?_
      refine Exs.cons ?_
      refine Ex.iff ?_
      refine Tst.cmp (by kernel_rfl) ?_
      refine Ev.loc (by (repeat (first | assumption | with_reducible exact lk0 | with_reducible refine lkb (by kernel_rfl) ?_ | simp only [List.reverse_cons, List.reverse_nil, List.nil_append, List.cons_append]))) rfl (by kernel_rfl) (by kernel_rfl) ?_
      refine Ev.int ?_
      with_reducible refine Op2.eqI ?_
      refine ⟨_, rfl, ?_⟩
      rw [one_less]
      by_cases c1 : gone (swp row a) k = 1
      · rw [if_pos (beq1 c1)]
        refine Exs.cons ?_
        refine Ex.assignS (by rfl) ?_
        refine Ev.loc (by (repeat (first | assumption | with_reducible exact lk0 | with_reducible refine lkb (by kernel_rfl) ?_ | simp only [List.reverse_cons, List.reverse_nil, List.nil_append, List.cons_append]))) rfl (by kernel_rfl) (by kernel_rfl) ?_
        refine Ev.loc (by (repeat (first | assumption | with_reducible exact lk0 | with_reducible refine lkb (by kernel_rfl) ?_ | simp only [List.reverse_cons, List.reverse_nil, List.nil_append, List.cons_append]))) rfl (by kernel_rfl) (by kernel_rfl) ?_
        refine Ev.loc (by (repeat (first | assumption | with_reducible exact lk0 | with_reducible refine lkb (by kernel_rfl) ?_ | simp only [List.reverse_cons, List.reverse_nil, List.nil_append, List.cons_append]))) rfl (by kernel_rfl) (by kernel_rfl) ?_
        refine Set3.list2 (hp := B ++ [.cell (some (.list (LL threes))), .cell (some (.list ((swp row a).map .int))), .cell (some (.list (dotsV (swp row a)))), .cell lf, .cell rt, .cell (some (.list ((heldN row a).map fun (k : Nat) => V.int k))), o6, .list ((sd.set k (six (swp row a) k)).map .int), o8]) (by (first | assumption | (simp only [getB, getB0, List.append_assoc, List.cons_append, List.nil_append]; rfl) | rfl)) (by omega) (by rw [List.length_map]; omega) (by omega) (by rw [show ((k : Int)).toNat = k from rfl, List.map_set]; exact setB _ _ 7 _) ?_
        refine Exs.nil ?_
        refine Exs.cons ?_
        refine ex_check G (k := k) (g := gone (swp row a) k) (sx := six (swp row a) k) (sd := sd.set k (six (swp row a) k)) (by rw [List.length_set]; exact hsl) hk (.inl c1) ?_ (by (repeat (first | assumption | with_reducible exact lk0 | with_reducible refine lkb (by kernel_rfl) ?_ | simp only [List.reverse_cons, List.reverse_nil, List.nil_append, List.cons_append]))) (by (repeat (first | assumption | with_reducible exact lk0 | with_reducible refine lkb (by kernel_rfl) ?_ | simp only [List.reverse_cons, List.reverse_nil, List.nil_append, List.cons_append]))) (by (repeat (first | assumption | with_reducible exact lk0 | with_reducible refine lkb (by kernel_rfl) ?_ | simp only [List.reverse_cons, List.reverse_nil, List.nil_append, List.cons_append]))) (by (repeat (first | assumption | with_reducible exact lk0 | with_reducible refine lkb (by kernel_rfl) ?_ | simp only [List.reverse_cons, List.reverse_nil, List.nil_append, List.cons_append]))) ?_
        · rw [getD_set (by omega), if_pos rfl, c1, hg1.2.2.1 c1]
          unfold way; split <;> decide
        refine Exs.nil ?_
        refine ⟨sd.set k (six (swp row a) k), by rw [List.length_set]; exact hsl, fun m hm => ?_, ⟨rfl, rfl, rfl⟩, by (repeat (first | assumption | with_reducible exact lk0 | with_reducible refine lkb (by kernel_rfl) ?_ | simp only [List.reverse_cons, List.reverse_nil, List.nil_append, List.cons_append])), by (repeat (first | assumption | with_reducible exact lk0 | with_reducible refine lkb (by kernel_rfl) ?_ | simp only [List.reverse_cons, List.reverse_nil, List.nil_append, List.cons_append])), by (repeat (first | assumption | with_reducible exact lk0 | with_reducible refine lkb (by kernel_rfl) ?_ | simp only [List.reverse_cons, List.reverse_nil, List.nil_append, List.cons_append])), by (repeat (first | assumption | with_reducible exact lk0 | with_reducible refine lkb (by kernel_rfl) ?_ | simp only [List.reverse_cons, List.reverse_nil, List.nil_append, List.cons_append])), by (repeat (first | assumption | with_reducible exact lk0 | with_reducible refine lkb (by kernel_rfl) ?_ | simp only [List.reverse_cons, List.reverse_nil, List.nil_append, List.cons_append]))⟩
        rw [getD_set (by omega), hsd m hm, List.take_succ, hjk]
        by_cases hmk : m = k
        · subst hmk
          rw [if_pos rfl, if_pos (by simp), upS, if_pos ⟨hh, c1⟩]
        · rw [if_neg hmk]
          simp only [Option.toList_some, List.mem_append, List.mem_singleton, hmk, or_false]
      · rw [if_neg (bne1 c1)]
        refine Exs.nil ?_
        refine Exs.cons ?_
        have hu0 : upS row a f k = f k := by rw [upS, if_neg (fun z => c1 z.2)]
        have hu1 : sd.getD k 0 = f k := by rw [hsd k hk, hu0]; split <;> rfl
        refine ex_check G (k := k) (g := gone (swp row a) k) (sx := six (swp row a) k) (sd := sd) hsl hk (.inr (g23 hg1.1 hg1.2.1 c1)) ?_ (by (repeat (first | assumption | with_reducible exact lk0 | with_reducible refine lkb (by kernel_rfl) ?_ | simp only [List.reverse_cons, List.reverse_nil, List.nil_append, List.cons_append]))) (by (repeat (first | assumption | with_reducible exact lk0 | with_reducible refine lkb (by kernel_rfl) ?_ | simp only [List.reverse_cons, List.reverse_nil, List.nil_append, List.cons_append]))) (by (repeat (first | assumption | with_reducible exact lk0 | with_reducible refine lkb (by kernel_rfl) ?_ | simp only [List.reverse_cons, List.reverse_nil, List.nil_append, List.cons_append]))) (by (repeat (first | assumption | with_reducible exact lk0 | with_reducible refine lkb (by kernel_rfl) ?_ | simp only [List.reverse_cons, List.reverse_nil, List.nil_append, List.cons_append]))) ?_
        · rw [hu1]
          obtain ⟨h1', h2', h3', h4', h5'⟩ := hg1
          obtain ⟨k1, k2⟩ := hf k hk hh
          rcases g23 h1' h2' c1 with c2 | c2
          · rw [c2, k1 (Nat.succ.inj (h1'.symm.trans c2))]; exact (h4' c2).2
          · rw [c2, h5' c2]
            rcases k2 (Nat.succ.inj (h1'.symm.trans c2)) with e | e <;> rw [e] <;> decide
        refine Exs.nil ?_
        refine ⟨sd, hsl, fun m hm => ?_, ⟨rfl, rfl, rfl⟩, by (repeat (first | assumption | with_reducible exact lk0 | with_reducible refine lkb (by kernel_rfl) ?_ | simp only [List.reverse_cons, List.reverse_nil, List.nil_append, List.cons_append])), by (repeat (first | assumption | with_reducible exact lk0 | with_reducible refine lkb (by kernel_rfl) ?_ | simp only [List.reverse_cons, List.reverse_nil, List.nil_append, List.cons_append])), by (repeat (first | assumption | with_reducible exact lk0 | with_reducible refine lkb (by kernel_rfl) ?_ | simp only [List.reverse_cons, List.reverse_nil, List.nil_append, List.cons_append])), by (repeat (first | assumption | with_reducible exact lk0 | with_reducible refine lkb (by kernel_rfl) ?_ | simp only [List.reverse_cons, List.reverse_nil, List.nil_append, List.cons_append])), by (repeat (first | assumption | with_reducible exact lk0 | with_reducible refine lkb (by kernel_rfl) ?_ | simp only [List.reverse_cons, List.reverse_nil, List.nil_append, List.cons_append]))⟩
        rw [hsd m hm, List.take_succ, hjk]
        by_cases hmk : m = k
        · subst hmk
          rw [hu0]
          split <;> split <;> rfl
        · simp only [Option.toList_some, List.mem_append, List.mem_singleton, hmk, or_false]
  · rintro ⟨loc, _, _, pin⟩ ⟨sd, hsl, hsd, ⟨rfl, rfl, rfl⟩, hl⟩
    refine h loc sd hsl (fun k hk => ?_) hl
    rw [hsd k hk, List.length_map, List.take_length]
    by_cases hm : k ∈ heldN row a
    · rw [if_pos hm]
    · rw [if_neg hm, upS, if_neg (fun z => hm (List.mem_filter.mpr ⟨List.mem_range.mpr hk, z.1⟩))]

end

section
open PySem PySem.Calls PyProof.Rows PySem.W

noncomputable def spJ (row : List Int) (a : Nat) : Nat → List Int
  | 0 => sp0 row a
  | 1 => nearF (swp row a) (sp0 row a) ((a : Int) - 1)
  | _ => nearF (swp row a) (nearF (swp row a) (sp0 row a) ((a : Int) - 1)) ((a : Int) + 1)

set_option maxHeartbeats 4000000 in
theorem ex_near {Γ : Gam} {n L} {Q : Fl → St → Prop} (G : Grd Γ (K0 Γ)) {loc : List (Str × V)} {B : List O} {pin c0 c2 c3 c4 c5 o7 o8} {row : List Int} {a : Nat} {ns : List Int} {e : Str} (hr : row ∈ perms) (ha : a ∈ spotsN row)
    (hat : loc.lookup ("at" : Str) = some (.int a)) (hloc : Lks B.length ns e loc)
    (h : ∀ loc' : List (Str × V), Lks B.length ns e loc' → Q .next { loc := loc', cl := clR B.length, heap := B ++ [c0, .cell (some (.list ((swp row a).map .int))), c2, c3, c4, c5, .list ((spotsOf (swp row a)).map .int), o7, o8], pin := pin }) :
    Ex Γ (n + 3) (callEnvC (fdOf Γ 120) L 120) { loc := loc, cl := clR B.length, heap := B ++ [c0, .cell (some (.list ((swp row a).map .int))), c2, c3, c4, c5, .list ((sp0 row a).map .int), o7, o8], pin := pin } (run Γ 7) Q := by
  obtain ⟨_, _, _, e4⟩ := edges _ hr
  obtain ⟨q1, q2, _⟩ := e4 a ha
  obtain ⟨b1, b2, b3, b4, b5, b6, b7⟩ := edges3 _ hr a ha
  refine Ex.for (fun _ => rfl) ?_
  refine Ev.listF ?_
  refine Arg.cons ?_
  refine Ev.binop ?_
  refine Ev.loc (by (repeat (first | assumption | with_reducible exact lk0 | with_reducible refine lkb (by kernel_rfl) ?_ | simp only [List.reverse_cons, List.reverse_nil, List.nil_append, List.cons_append]))) rfl (by kernel_rfl) (by kernel_rfl) ?_
  refine Ev.int ?_
  with_reducible refine Op2.subI ?_
  refine Arg.cons ?_
  refine Ev.binop ?_
  refine Ev.loc (by (repeat (first | assumption | with_reducible exact lk0 | with_reducible refine lkb (by kernel_rfl) ?_ | simp only [List.reverse_cons, List.reverse_nil, List.nil_append, List.cons_append]))) rfl (by kernel_rfl) (by kernel_rfl) ?_
  refine Ev.int ?_
  with_reducible refine Op2.addI ?_
  refine Arg.nil ?_
  refine ⟨by simp, ?_⟩
  refine ⟨_, Itr.list (by simp), fun (j : Nat) (st' : St) => At (clR B.length) (B ++ [c0, .cell (some (.list ((swp row a).map .int))), c2, c3, c4, c5, .list ((spJ row a j).map .int), o7, o8]) pin st' ∧ Lks B.length ns e st'.loc, ⟨⟨rfl, rfl, rfl⟩, hloc⟩, ?_, ?_⟩
  · rintro j ⟨loc2, _, _, pin⟩ u ⟨⟨rfl, rfl, rfl⟩, k1, k2, k3, k4, k5⟩ hu2
    replace k1 : loc2.lookup ("numbers" : Str) = _ := k1
    replace k2 : loc2.lookup ("end" : Str) = _ := k2
    replace k3 : loc2.lookup ("spots" : Str) = _ := k3
    replace k4 : loc2.lookup ("sides" : Str) = _ := k4
    replace k5 : loc2.lookup ("times" : Str) = _ := k5
    obtain ⟨near, rfl, hnx, hsp, hspl, hn1, hn2⟩ : ∃ near : Int, u = .int near ∧ spJ row a (j + 1) = nearF (swp row a) (spJ row a j) near ∧ (spJ row a j).Pairwise (· ≤ ·) ∧ (spJ row a j).length ≤ 5 ∧ -5 ≤ near ∧ near ≤ 5 := by
      match j, hu2 with
      | 0, hu2 => exact ⟨(a : Int) - 1, by simpa using hu2.symm, rfl, b3, by show (sp0 _ _).length ≤ 5; omega, by omega, by omega⟩
      | 1, hu2 => exact ⟨(a : Int) + 1, by simpa using hu2.symm, rfl, b4, b6, by omega, by omega⟩
      | j + 2, hu2 => simp at hu2
    have hrl : (swp row a).length = 5 := (edges _ q2).1
    have hskip : ¬ (0 ≤ near ∧ near < 4 ∧ 256 + (swp row a).getD near.toNat 0 - (swp row a).getD (near + 1).toNat 0 < 256) → spJ row a (j + 1) = spJ row a j := fun z => by rw [hnx, nearF, if_neg z]
    refine Asg.name ?_
    refine Sto.loc (by kernel_rfl) (by kernel_rfl) ?_
    refine Exs.cons ?_
    refine Ex.iff ?_
    refine Tst.and ?_
    refine Tst.chain (by kernel_rfl) ?_
    refine Ev.int ?_
    refine Ev.loc (by (repeat (first | assumption | with_reducible exact lk0 | with_reducible refine lkb (by kernel_rfl) ?_ | simp only [List.reverse_cons, List.reverse_nil, List.nil_append, List.cons_append]))) rfl (by kernel_rfl) (by kernel_rfl) ?_
    with_reducible refine Op2.leI ?_
    refine ⟨_, rfl, ?_⟩
    by_cases c1 : 0 ≤ near
    · rw [if_pos (decide_eq_true c1)]
      refine Ev.int ?_
      with_reducible refine Op2.ltI ?_
      refine ⟨_, rfl, ?_⟩
      by_cases c2 : near < 4
      · rw [if_pos (decide_eq_true c2)]
        refine Tst.and ?_
        refine Tst.val (fun _ => rfl) ?_
        refine Ev.call ?_
        refine Ev.glo (G.gv rfl) (fun _ _ _ => .val _) rfl rfl (by kernel_rfl) (by kernel_rfl) ?_
        refine ⟨_, rfl, (KP.fn (G.K _ _ rfl) rfl), ?_⟩
        refine Arg.cons ?_
        refine Ev.binop ?_
        refine Ev.binop ?_
        refine Ev.glo (v := .int _) (G.gv rfl) (fun _ _ _ => .int _ _) rfl rfl (by kernel_rfl) (by kernel_rfl) ?_
        refine Ev.sub ?_
        refine Ev.cel rfl (by (first | assumption | (simp only [getB, getB0, List.append_assoc, List.cons_append, List.nil_append]; rfl) | rfl)) rfl (by kernel_rfl) (by kernel_rfl) ?_
        refine Ev.loc (by (repeat (first | assumption | with_reducible exact lk0 | with_reducible refine lkb (by kernel_rfl) ?_ | simp only [List.reverse_cons, List.reverse_nil, List.nil_append, List.cons_append]))) rfl (by kernel_rfl) (by kernel_rfl) ?_
        refine Op2.itemI (ns := swp row a) (fun _ _ => rfl) (by (first | exact .inl rfl | exact .inr ⟨_, rfl, by (first | assumption | (simp only [getB, getB0, List.append_assoc, List.cons_append, List.nil_append]; rfl) | rfl)⟩)) (by omega) (by omega) (by omega) ?_
        with_reducible refine Op2.addI ?_
        refine Ev.sub ?_
        refine Ev.cel rfl (by (first | assumption | (simp only [getB, getB0, List.append_assoc, List.cons_append, List.nil_append]; rfl) | rfl)) rfl (by kernel_rfl) (by kernel_rfl) ?_
        refine Ev.binop ?_
        refine Ev.loc (by (repeat (first | assumption | with_reducible exact lk0 | with_reducible refine lkb (by kernel_rfl) ?_ | simp only [List.reverse_cons, List.reverse_nil, List.nil_append, List.cons_append]))) rfl (by kernel_rfl) (by kernel_rfl) ?_
        refine Ev.int ?_
        with_reducible refine Op2.addI ?_
        refine Op2.itemI (ns := swp row a) (fun _ _ => rfl) (by (first | exact .inl rfl | exact .inr ⟨_, rfl, by (first | assumption | (simp only [getB, getB0, List.append_assoc, List.cons_append, List.nil_append]; rfl) | rfl)⟩)) (by omega) (by omega) (by omega) ?_
        with_reducible refine Op2.subI ?_
        refine Arg.nil ?_
        refine isterminal G ?_
        refine ⟨_, rfl, ?_⟩
        by_cases c3 : 256 + (swp row a).getD near.toNat 0 - (swp row a).getD (near + 1).toNat 0 < 256
        · rw [if_pos (decide_eq_true c3)]
          refine Tst.andNil ?_
          rw [if_pos rfl]
          refine Exs.cons ?_
          refine Ex.assign (by rfl) ?_
          refine Ev.call ?_
          refine Ev.glo (G.gv rfl) (fun _ _ _ => .val _) rfl rfl (by kernel_rfl) (by kernel_rfl) ?_
          refine ⟨_, rfl, (KP.fn (G.K _ _ rfl) rfl), ?_⟩
          refine Arg.cons ?_
          refine Ev.loc (by (repeat (first | assumption | with_reducible exact lk0 | with_reducible refine lkb (by kernel_rfl) ?_ | simp only [List.reverse_cons, List.reverse_nil, List.nil_append, List.cons_append]))) rfl (by kernel_rfl) (by kernel_rfl) ?_
          refine Arg.cons ?_
          refine Ev.loc (by (repeat (first | assumption | with_reducible exact lk0 | with_reducible refine lkb (by kernel_rfl) ?_ | simp only [List.reverse_cons, List.reverse_nil, List.nil_append, List.cons_append]))) rfl (by kernel_rfl) (by kernel_rfl) ?_
          refine Arg.nil ?_
          refine bisect_left G (ns := spJ row a j) (by (first | exact .inl rfl | exact .inr ⟨_, rfl, by (first | assumption | (simp only [getB, getB0, List.append_assoc, List.cons_append, List.nil_append]; rfl) | rfl)⟩)) (by omega) hsp (.inl rfl) fun r hr g3 g4 => ?_
          have hrb2 := bl_uniq hr g3 g4
          refine Sto.loc (by kernel_rfl) (by kernel_rfl) ?_
          refine Exs.cons ?_
          refine Ex.iff ?_
          refine Tst.or ?_
          refine Tst.cmp (by kernel_rfl) ?_
          refine Ev.loc (by (repeat (first | assumption | with_reducible exact lk0 | with_reducible refine lkb (by kernel_rfl) ?_ | simp only [List.reverse_cons, List.reverse_nil, List.nil_append, List.cons_append]))) rfl (by kernel_rfl) (by kernel_rfl) ?_
          refine Ev.call ?_
          refine Ev.bui (G.gb rfl boot_len (by decide)) rfl rfl rfl (by kernel_rfl) (by kernel_rfl) ?_
          refine ⟨_, rfl, KP.builtin, ?_⟩
          refine Arg.cons ?_
          refine Ev.loc (by (repeat (first | assumption | with_reducible exact lk0 | with_reducible refine lkb (by kernel_rfl) ?_ | simp only [List.reverse_cons, List.reverse_nil, List.nil_append, List.cons_append]))) rfl (by kernel_rfl) (by kernel_rfl) ?_
          refine Arg.nil ?_
          refine Cal.lenL (vs := (spJ row a j).map V.int) (by (first | exact .inl rfl | exact .inr ⟨_, rfl, by (first | assumption | (simp only [getB, getB0, List.append_assoc, List.cons_append, List.nil_append]; rfl) | rfl)⟩)) (by rw [List.length_map]; omega) ?_
          rw [List.length_map]
          with_reducible refine Op2.eqI ?_
          refine ⟨_, rfl, ?_⟩
          rw [if_pos rfl]
          have hput : (r = (spJ row a j).length ∨ (spJ row a j).getD r 0 ≠ near) → spJ row a (j + 1) = (spJ row a j).take r ++ near :: (spJ row a j).drop r := fun z => by
            rw [hnx, nearF, if_pos ⟨c1, c2, c3⟩, ← hrb2, if_pos z]
          by_cases c4 : r = (spJ row a j).length
          · rw [if_pos (show ((r : Int) == ((spJ row a j).length : Int)) = true from beq_iff_eq.mpr (by omega))]
            refine Exs.cons ?_
            refine Ex.expr (by rfl) (by rfl) ?_
            refine Ev.call ?_
            refine Ev.glo (G.gv rfl) (fun _ _ _ => .val _) rfl rfl (by kernel_rfl) (by kernel_rfl) ?_
            refine ⟨_, rfl, (KP.fn (G.K _ _ rfl) rfl), ?_⟩
            refine Arg.cons ?_
            refine Ev.loc (by (repeat (first | assumption | with_reducible exact lk0 | with_reducible refine lkb (by kernel_rfl) ?_ | simp only [List.reverse_cons, List.reverse_nil, List.nil_append, List.cons_append]))) rfl (by kernel_rfl) (by kernel_rfl) ?_
            refine Arg.cons ?_
            refine Ev.loc (by (repeat (first | assumption | with_reducible exact lk0 | with_reducible refine lkb (by kernel_rfl) ?_ | simp only [List.reverse_cons, List.reverse_nil, List.nil_append, List.cons_append]))) rfl (by kernel_rfl) (by kernel_rfl) ?_
            refine Arg.nil ?_
            refine insort_left G (k := B.length + 6) (ns := spJ row a j) (by (first | assumption | (simp only [getB, getB0, List.append_assoc, List.cons_append, List.nil_append]; rfl) | rfl)) (by omega) hsp fun r2 hr2 g5 g6 => ?_
            rw [show r2 = r from (bl_uniq hr2 g5 g6).trans hrb2.symm]
            refine Exs.nil ?_
            refine Exs.nil ?_
            refine Exs.nil ?_
            refine ⟨⟨rfl, ?_, rfl⟩, by (repeat (first | assumption | with_reducible exact lk0 | with_reducible refine lkb (by kernel_rfl) ?_ | simp only [List.reverse_cons, List.reverse_nil, List.nil_append, List.cons_append])), by (repeat (first | assumption | with_reducible exact lk0 | with_reducible refine lkb (by kernel_rfl) ?_ | simp only [List.reverse_cons, List.reverse_nil, List.nil_append, List.cons_append])), by (repeat (first | assumption | with_reducible exact lk0 | with_reducible refine lkb (by kernel_rfl) ?_ | simp only [List.reverse_cons, List.reverse_nil, List.nil_append, List.cons_append])), by (repeat (first | assumption | with_reducible exact lk0 | with_reducible refine lkb (by kernel_rfl) ?_ | simp only [List.reverse_cons, List.reverse_nil, List.nil_append, List.cons_append])), by (repeat (first | assumption | with_reducible exact lk0 | with_reducible refine lkb (by kernel_rfl) ?_ | simp only [List.reverse_cons, List.reverse_nil, List.nil_append, List.cons_append]))⟩
            rw [hput (.inl c4)]
            exact setB _ _ 6 _
          · rw [if_neg (show ¬ ((r : Int) == ((spJ row a j).length : Int)) = true from fun z => c4 (by have := beq_iff_eq.mp z; omega))]
            refine Tst.or ?_
            refine Tst.cmp (by kernel_rfl) ?_
            refine Ev.sub ?_
            refine Ev.loc (by (repeat (first | assumption | with_reducible exact lk0 | with_reducible refine lkb (by kernel_rfl) ?_ | simp only [List.reverse_cons, List.reverse_nil, List.nil_append, List.cons_append]))) rfl (by kernel_rfl) (by kernel_rfl) ?_
            refine Ev.loc (by (repeat (first | assumption | with_reducible exact lk0 | with_reducible refine lkb (by kernel_rfl) ?_ | simp only [List.reverse_cons, List.reverse_nil, List.nil_append, List.cons_append]))) rfl (by kernel_rfl) (by kernel_rfl) ?_
            refine Op2.itemI (ns := spJ row a j) (fun _ _ => rfl) (by (first | exact .inl rfl | exact .inr ⟨_, rfl, by (first | assumption | (simp only [getB, getB0, List.append_assoc, List.cons_append, List.nil_append]; rfl) | rfl)⟩)) (by omega) (by omega) (by omega) ?_
            refine Ev.loc (by (repeat (first | assumption | with_reducible exact lk0 | with_reducible refine lkb (by kernel_rfl) ?_ | simp only [List.reverse_cons, List.reverse_nil, List.nil_append, List.cons_append]))) rfl (by kernel_rfl) (by kernel_rfl) ?_
            with_reducible refine Op2.neI ?_
            refine ⟨_, rfl, ?_⟩
            rw [if_pos rfl]
            rw [show ((r : Int)).toNat = r by omega]
            by_cases c5 : (spJ row a j).getD r 0 = near
            · rw [if_neg (show ¬ ((spJ row a j).getD r 0 != near) = true from fun z => (bne_iff_ne.mp z) c5)]
              refine Tst.orNil ?_
              rw [if_neg (by decide)]
              refine Exs.nil ?_
              refine Exs.nil ?_
              refine Exs.nil ?_
              refine ⟨⟨rfl, ?_, rfl⟩, by (repeat (first | assumption | with_reducible exact lk0 | with_reducible refine lkb (by kernel_rfl) ?_ | simp only [List.reverse_cons, List.reverse_nil, List.nil_append, List.cons_append])), by (repeat (first | assumption | with_reducible exact lk0 | with_reducible refine lkb (by kernel_rfl) ?_ | simp only [List.reverse_cons, List.reverse_nil, List.nil_append, List.cons_append])), by (repeat (first | assumption | with_reducible exact lk0 | with_reducible refine lkb (by kernel_rfl) ?_ | simp only [List.reverse_cons, List.reverse_nil, List.nil_append, List.cons_append])), by (repeat (first | assumption | with_reducible exact lk0 | with_reducible refine lkb (by kernel_rfl) ?_ | simp only [List.reverse_cons, List.reverse_nil, List.nil_append, List.cons_append])), by (repeat (first | assumption | with_reducible exact lk0 | with_reducible refine lkb (by kernel_rfl) ?_ | simp only [List.reverse_cons, List.reverse_nil, List.nil_append, List.cons_append]))⟩
              rw [hnx, nearF, if_pos ⟨c1, c2, c3⟩, ← hrb2, if_neg (fun z => z.elim c4 fun z => z c5)]
            · rw [if_pos (show ((spJ row a j).getD r 0 != near) = true from bne_iff_ne.mpr c5)]
              refine Exs.cons ?_
              refine Ex.expr (by rfl) (by rfl) ?_
              refine Ev.call ?_
              refine Ev.glo (G.gv rfl) (fun _ _ _ => .val _) rfl rfl (by kernel_rfl) (by kernel_rfl) ?_
              refine ⟨_, rfl, (KP.fn (G.K _ _ rfl) rfl), ?_⟩
              refine Arg.cons ?_
              refine Ev.loc (by (repeat (first | assumption | with_reducible exact lk0 | with_reducible refine lkb (by kernel_rfl) ?_ | simp only [List.reverse_cons, List.reverse_nil, List.nil_append, List.cons_append]))) rfl (by kernel_rfl) (by kernel_rfl) ?_
              refine Arg.cons ?_
              refine Ev.loc (by (repeat (first | assumption | with_reducible exact lk0 | with_reducible refine lkb (by kernel_rfl) ?_ | simp only [List.reverse_cons, List.reverse_nil, List.nil_append, List.cons_append]))) rfl (by kernel_rfl) (by kernel_rfl) ?_
              refine Arg.nil ?_
              refine insort_left G (k := B.length + 6) (ns := spJ row a j) (by (first | assumption | (simp only [getB, getB0, List.append_assoc, List.cons_append, List.nil_append]; rfl) | rfl)) (by omega) hsp fun r2 hr2 g5 g6 => ?_
              rw [show r2 = r from (bl_uniq hr2 g5 g6).trans hrb2.symm]
              refine Exs.nil ?_
              refine Exs.nil ?_
              refine Exs.nil ?_
              refine ⟨⟨rfl, ?_, rfl⟩, by (repeat (first | assumption | with_reducible exact lk0 | with_reducible refine lkb (by kernel_rfl) ?_ | simp only [List.reverse_cons, List.reverse_nil, List.nil_append, List.cons_append])), by (repeat (first | assumption | with_reducible exact lk0 | with_reducible refine lkb (by kernel_rfl) ?_ | simp only [List.reverse_cons, List.reverse_nil, List.nil_append, List.cons_append])), by (repeat (first | assumption | with_reducible exact lk0 | with_reducible refine lkb (by kernel_rfl) ?_ | simp only [List.reverse_cons, List.reverse_nil, List.nil_append, List.cons_append])), by (repeat (first | assumption | with_reducible exact lk0 | with_reducible refine lkb (by kernel_rfl) ?_ | simp only [List.reverse_cons, List.reverse_nil, List.nil_append, List.cons_append])), by (repeat (first | assumption | with_reducible exact lk0 | with_reducible refine lkb (by kernel_rfl) ?_ | simp only [List.reverse_cons, List.reverse_nil, List.nil_append, List.cons_append]))⟩
              rw [hput (.inr c5)]
              exact setB _ _ 6 _
        · rw [if_neg (by simpa using c3)]
          rw [if_neg (by decide)]
          refine Exs.nil ?_
          refine Exs.nil ?_
          refine ⟨⟨rfl, by rw [hskip (fun z => c3 z.2.2)], rfl⟩, by (repeat (first | assumption | with_reducible exact lk0 | with_reducible refine lkb (by kernel_rfl) ?_ | simp only [List.reverse_cons, List.reverse_nil, List.nil_append, List.cons_append])), by (repeat (first | assumption | with_reducible exact lk0 | with_reducible refine lkb (by kernel_rfl) ?_ | simp only [List.reverse_cons, List.reverse_nil, List.nil_append, List.cons_append])), by (repeat (first | assumption | with_reducible exact lk0 | with_reducible refine lkb (by kernel_rfl) ?_ | simp only [List.reverse_cons, List.reverse_nil, List.nil_append, List.cons_append])), by (repeat (first | assumption | with_reducible exact lk0 | with_reducible refine lkb (by kernel_rfl) ?_ | simp only [List.reverse_cons, List.reverse_nil, List.nil_append, List.cons_append])), by (repeat (first | assumption | with_reducible exact lk0 | with_reducible refine lkb (by kernel_rfl) ?_ | simp only [List.reverse_cons, List.reverse_nil, List.nil_append, List.cons_append]))⟩
      · rw [if_neg (by simpa using c2)]
        rw [if_neg (by decide)]
        refine Exs.nil ?_
        refine Exs.nil ?_
        refine ⟨⟨rfl, by rw [hskip (fun z => c2 z.2.1)], rfl⟩, by (repeat (first | assumption | with_reducible exact lk0 | with_reducible refine lkb (by kernel_rfl) ?_ | simp only [List.reverse_cons, List.reverse_nil, List.nil_append, List.cons_append])), by (repeat (first | assumption | with_reducible exact lk0 | with_reducible refine lkb (by kernel_rfl) ?_ | simp only [List.reverse_cons, List.reverse_nil, List.nil_append, List.cons_append])), by (repeat (first | assumption | with_reducible exact lk0 | with_reducible refine lkb (by kernel_rfl) ?_ | simp only [List.reverse_cons, List.reverse_nil, List.nil_append, List.cons_append])), by (repeat (first | assumption | with_reducible exact lk0 | with_reducible refine lkb (by kernel_rfl) ?_ | simp only [List.reverse_cons, List.reverse_nil, List.nil_append, List.cons_append])), by (repeat (first | assumption | with_reducible exact lk0 | with_reducible refine lkb (by kernel_rfl) ?_ | simp only [List.reverse_cons, List.reverse_nil, List.nil_append, List.cons_append]))⟩
    · rw [if_neg (by simpa using c1)]
      rw [if_neg (by decide)]
      rw [if_neg (by decide)]
      refine Exs.nil ?_
      refine Exs.nil ?_
      refine ⟨⟨rfl, by rw [hskip (fun z => c1 z.1)], rfl⟩, by (repeat (first | assumption | with_reducible exact lk0 | with_reducible refine lkb (by kernel_rfl) ?_ | simp only [List.reverse_cons, List.reverse_nil, List.nil_append, List.cons_append])), by (repeat (first | assumption | with_reducible exact lk0 | with_reducible refine lkb (by kernel_rfl) ?_ | simp only [List.reverse_cons, List.reverse_nil, List.nil_append, List.cons_append])), by (repeat (first | assumption | with_reducible exact lk0 | with_reducible refine lkb (by kernel_rfl) ?_ | simp only [List.reverse_cons, List.reverse_nil, List.nil_append, List.cons_append])), by (repeat (first | assumption | with_reducible exact lk0 | with_reducible refine lkb (by kernel_rfl) ?_ | simp only [List.reverse_cons, List.reverse_nil, List.nil_append, List.cons_append])), by (repeat (first | assumption | with_reducible exact lk0 | with_reducible refine lkb (by kernel_rfl) ?_ | simp only [List.reverse_cons, List.reverse_nil, List.nil_append, List.cons_append]))⟩
  · rintro ⟨loc2, _, _, pin⟩ ⟨⟨rfl, rfl, rfl⟩, hl⟩
    have := h loc2 hl
    rw [← b7] at this
    exact this

end

section
open PySem PySem.Calls PyProof.Rows PySem.W

set_option maxHeartbeats 400000 in
theorem run_end {Γ : Gam} {n L} {Q : Fl → St → Prop} (G : Grd Γ (K0 Γ)) {loc : List (Str × V)} {B : List O} {pin c0 rowV dotV c3 c4 c5 o7 o8}
    (h3 : loc.lookup ("spots" : Str) = some (.obj (B.length + 6))) (h4 : loc.lookup ("sides" : Str) = some (.obj (B.length + 7))) (h5 : loc.lookup ("times" : Str) = some (.obj (B.length + 8)))
    (h : Q (.ret (.tup [rowV, dotV, .obj (B.length + 8), .obj (B.length + 7)])) { loc := loc, cl := clR B.length, heap := B ++ [c0, .cell (some rowV), .cell (some dotV), c3, c4, c5, .list [], o7, o8], pin := pin }) :
    Exs Γ (n + 3) (callEnvC (fdOf Γ 120) L 120) { loc := loc, cl := clR B.length, heap := B ++ [c0, .cell (some rowV), .cell (some dotV), c3, c4, c5, .list [], o7, o8], pin := pin } ((stmtsOf (fdOf Γ 120)).drop 7) Q := by
  refine Exs.cons ?_
  refine Ex.iff ?_
  refine Tst.not ?_
  refine Tst.val (fun _ => rfl) ?_
  refine Ev.call ?_
  refine Ev.glo (G.gv rfl) (fun _ _ _ => .val _) rfl rfl (by kernel_rfl) (by kernel_rfl) ?_
  refine ⟨_, rfl, (KP.fn (G.K _ _ rfl) rfl), ?_⟩
  refine Arg.cons ?_
  refine Ev.call ?_
  refine Ev.bui (G.gb rfl boot_len (by decide)) rfl rfl rfl (by kernel_rfl) (by kernel_rfl) ?_
  refine ⟨_, rfl, KP.builtin, ?_⟩
  refine Arg.cons ?_
  refine Ev.loc (by (repeat (first | assumption | with_reducible exact lk0 | with_reducible refine lkb (by kernel_rfl) ?_ | simp only [List.reverse_cons, List.reverse_nil, List.nil_append, List.cons_append]))) rfl (by kernel_rfl) (by kernel_rfl) ?_
  refine Arg.nil ?_
  refine Cal.lenL (vs := []) (.inr ⟨_, rfl, by (first | assumption | (simp only [getB, getB0, List.append_assoc, List.cons_append, List.nil_append]; rfl) | rfl)⟩) (by decide) ?_
  refine Arg.nil ?_
  refine iseof G ?_
  rw [show (((([] : List V).length : Nat) : Int) == 0) = true from rfl]
  refine ⟨_, rfl, ?_⟩
  rw [if_neg (by decide)]
  refine Exs.nil ?_
  refine Exs.cons ?_
  refine Ex.ret ?_
  refine Ev.tup ?_
  refine Arg.cons ?_
  refine Ev.cel rfl (by (first | assumption | (simp only [getB, getB0, List.append_assoc, List.cons_append, List.nil_append]; rfl) | rfl)) rfl (by kernel_rfl) (by kernel_rfl) ?_
  refine Arg.cons ?_
  refine Ev.cel rfl (by (first | assumption | (simp only [getB, getB0, List.append_assoc, List.cons_append, List.nil_append]; rfl) | rfl)) rfl (by kernel_rfl) (by kernel_rfl) ?_
  refine Arg.cons ?_
  refine Ev.loc (by (repeat (first | assumption | with_reducible exact lk0 | with_reducible refine lkb (by kernel_rfl) ?_ | simp only [List.reverse_cons, List.reverse_nil, List.nil_append, List.cons_append]))) rfl (by kernel_rfl) (by kernel_rfl) ?_
  refine Arg.cons ?_
  refine Ev.loc (by (repeat (first | assumption | with_reducible exact lk0 | with_reducible refine lkb (by kernel_rfl) ?_ | simp only [List.reverse_cons, List.reverse_nil, List.nil_append, List.cons_append]))) rfl (by kernel_rfl) (by kernel_rfl) ?_
  refine Arg.nil ?_
  exact ⟨by simp, h⟩

end

section
open PySem PySem.Calls PyProof.Rows PySem.W

theorem map_erase {α β : Type} (f : α → β) : ∀ (l : List α) (n : Nat), (l.map f).eraseIdx n = (l.eraseIdx n).map f
  | [], n => by simp
  | x :: l, 0 => by simp
  | x :: l, n + 1 => by simp [map_erase f l n]
theorem dots0 : List.replicate 10 (V.str (Str.ofString ".")) = dotsV row0 := by
  rw [show Str.ofString "." = dot 1 by decide +kernel]
  have h : ∀ k ∈ List.range 10, gone row0 k = 0 := by decide +kernel
  unfold dotsV
  rw [List.map_congr_left (g := fun _ => V.str (dot 1)) fun k hk => by rw [h k hk]]
  rfl
/-- the sides at the head of a turn -/
noncomputable def sdAt (ns : List Int) : Nat → Nat → Int
  | 0 => fun _ => 3
  | i + 1 => upS (rowAt ns i) (pick (rowAt ns i) (ns.getD i 0)) (sdAt ns i)
theorem sd_ok (ns : List Int) : ∀ i, i ≤ 10 → ∀ k, k < 10 → gone (rowAt ns i) k = 1 ∨ gone (rowAt ns i) k = 2 → sdAt ns i k = way (rowAt ns i) k
  | 0, _, k, hk => by
    have h : ∀ k ∈ List.range 10, gone row0 k = 0 := by decide +kernel
    have h0 := h k (List.mem_range.mpr hk)
    intro h1
    have h1' : gone row0 k = 1 ∨ gone row0 k = 2 := h1
    omega
  | i + 1, hi, k, hk => by
    have ih := sd_ok ns i (by omega) k hk
    obtain ⟨h1, h2⟩ := rowAt_ok ns i (by omega)
    obtain ⟨_, e2, _, e4⟩ := edges _ h1
    have h3 := (pick_mem (e2 (by omega)) (ns.getD i 0)).1
    obtain ⟨g1, g2⟩ := edges2 _ h1 _ h3 k (List.mem_range.mpr hk)
    show gone (swp (rowAt ns i) (pick (rowAt ns i) (ns.getD i 0))) k = 1 ∨ gone (swp (rowAt ns i) (pick (rowAt ns i) (ns.getD i 0))) k = 2 → upS (rowAt ns i) (pick (rowAt ns i) (ns.getD i 0)) (sdAt ns i) k = way (swp (rowAt ns i) (pick (rowAt ns i) (ns.getD i 0))) k
    generalize pick (rowAt ns i) (ns.getD i 0) = a at *
    intro hg
    cases hh : isHeld (rowAt ns i) a k
    · obtain ⟨f1, f2⟩ := g2 hh
      rw [upS, if_neg (by simp [hh]), f2]
      exact ih (by omega)
    · obtain ⟨f1, f2, f3, f4, f5⟩ := g1 hh
      rcases hg with hg | hg
      · rw [upS, if_pos ⟨hh, hg⟩]; exact f3 hg
      · rw [upS, if_neg (by omega), (f4 hg).1]; exact ih (by omega)
theorem way_or (row : List Int) (k : Nat) : way row k = 2 ∨ way row k = 4 := by unfold way; split <;> simp
/-- the state at the head of a turn -/
noncomputable def RunAt (st : St) (ns : List Int) (e : Str) (i : Nat) (st' : St) : Prop :=
  (∃ lf rt hd, ∃ sd : List Int, (sd.length = 10 ∧ ∀ k, k < 10 → sd.getD k 0 = sdAt ns i k) ∧ At (clR st.heap.length) (st.heap ++ [.cell (some (.list (LL threes))), .cell (some (.list ((rowAt ns i).map .int))), .cell (some (.list (dotsV (rowAt ns i)))), .cell lf, .cell rt, .cell hd, .list ((spotsOf (rowAt ns i)).map .int), .list (sd.map .int), .dict (timesAt ns i)]) st.pin st') ∧
  Lks st.heap.length ns e st'.loc

theorem Ex.heq {Γ : Gam} {n : Nat} {env : Env} {st : St} {s : Stmt} {Q : Fl → St → Prop} {hp : List O} (e : st.heap = hp) (h : Ex Γ n env { loc := st.loc, cl := st.cl, heap := hp, pin := st.pin } s Q) : Ex Γ n env st s Q := by subst e; exact h
set_option maxHeartbeats 4000000 in
theorem law_run {Γ : Gam} {n env st} {Q : V → St → Prop} (G : Grd Γ (K0 Γ)) {ns : List Int} {sep : List Nat} {e : Str} (hlen : 10 ≤ ns.length) (hle : ns.length ≤ 1000) (hsep : sep = [10] ∨ sep = [13] ∨ sep = [13, 10]) (he : e.cps.toList = sep)
    (h : ∀ c0 c1 c2 c3 c4 c5 c6, ∀ sd : List Int, sd.length = 10 → (∀ k, k < 10 → sd.getD k 0 = sdAt ns 10 k) → Q (.tup [.list (row9.map .int), .list (dotsV row9), .obj (st.heap.length + 8), .obj (st.heap.length + 7)]) { st with heap := st.heap ++ [c0, c1, c2, c3, c4, c5, c6, .list (sd.map .int), .dict (timesAt ns 10)] }) : Cal Γ (n + 4) env st (.val (.ref 120)) [.list (ns.map .int), .str e] Q := by
  refine Cal.fnC2 (bv := [("numbers", .list (ns.map .int)), ("end", .str e)]) (hp := st.heap ++ [.cell none, .cell none, .cell none, .cell none, .cell none, .cell none]) (cl := clR st.heap.length) ["threes", "row", "dots", "left", "right", "held"] (G.def (a := 120) (fd := fdOf Γ 120) rfl rfl) (body := stmtsOf (fdOf Γ 120)) rfl ?_ (by rfl) (by decide) ?_ rfl rfl ?_
  · intro as ρ φ h hv
    cases hv with | cons h1 h2 => cases h2 with | cons h2 h3 => cases h3; exact ⟨_, rfl, .cons h1 (.cons h2 .nil)⟩
  · kernel_rfl
  · intro L
    refine Exs.cons ?_
    refine Ex.assign (by rfl) ?_
    refine Ev.call0 ?_
    refine Ev.glo (G.gv rfl) (fun _ _ _ => .val _) rfl rfl (by kernel_rfl) (by kernel_rfl) ?_
    refine ⟨_, rfl, (KP.fn (G.K _ _ rfl) rfl), ?_⟩
    refine law_threes G ?_
    refine Sto.cel2 rfl (by (first | assumption | (simp only [getB, getB0, List.append_assoc, List.cons_append, List.nil_append]; rfl) | rfl)) rfl (by kernel_rfl) (by (first | (simp only [setB, setB0, List.append_assoc, List.cons_append, List.nil_append, List.set_cons_zero, List.set_cons_succ]; rfl) | rfl)) ?_
    refine Exs.cons ?_
    refine Ex.assign (by rfl) ?_
    refine Ev.listF ?_
    refine Arg.cons ?_
    refine Ev.int ?_
    refine Arg.cons ?_
    refine Ev.int ?_
    refine Arg.cons ?_
    refine Ev.int ?_
    refine Arg.cons ?_
    refine Ev.int ?_
    refine Arg.cons ?_
    refine Ev.int ?_
    refine Arg.nil ?_
    refine ⟨by simp, ?_⟩
    refine Sto.cel2 rfl (by (first | assumption | (simp only [getB, getB0, List.append_assoc, List.cons_append, List.nil_append]; rfl) | rfl)) rfl (by kernel_rfl) (by (first | (simp only [setB, setB0, List.append_assoc, List.cons_append, List.nil_append, List.set_cons_zero, List.set_cons_succ]; rfl) | rfl)) ?_
    refine Exs.cons ?_
    refine Ex.assign (by rfl) ?_
    refine Ev.listM2 ?_
    refine Arg.cons ?_
    refine Ev.int ?_
    refine Arg.cons ?_
    refine Ev.int ?_
    refine Arg.cons ?_
    refine Ev.int ?_
    refine Arg.cons ?_
    refine Ev.int ?_
    refine Arg.nil ?_
    refine ⟨by simp, _, _, by ((simp only [List.length_append, List.length_cons, List.length_nil, Nat.zero_add, Nat.reduceAdd]; try rfl)), by (first | (simp only [setB, setB0, List.append_assoc, List.cons_append, List.nil_append, List.set_cons_zero, List.set_cons_succ]; rfl) | rfl), ?_⟩
    refine Sto.loc (by kernel_rfl) (by kernel_rfl) ?_
    refine Exs.cons ?_
    refine Ex.assign (by rfl) ?_
    refine Ev.binop ?_
    refine Ev.listF ?_
    refine Arg.cons ?_
    refine Ev.str ?_
    refine Arg.nil ?_
    refine ⟨by simp, ?_⟩
    refine Ev.int ?_
    refine Op2.mulLF (by decide) (by decide) ?_
    refine Sto.cel2 rfl (by (first | assumption | (simp only [getB, getB0, List.append_assoc, List.cons_append, List.nil_append]; rfl) | rfl)) rfl (by kernel_rfl) (by (first | (simp only [setB, setB0, List.append_assoc, List.cons_append, List.nil_append, List.set_cons_zero, List.set_cons_succ]; rfl) | rfl)) ?_
    refine Exs.cons ?_
    refine Ex.assign (by rfl) ?_
    refine Ev.binop ?_
    refine Ev.listF ?_
    refine Arg.cons ?_
    refine Ev.int ?_
    refine Arg.nil ?_
    refine ⟨by simp, ?_⟩
    refine Ev.int ?_
    refine Op2.mulLM2 (by decide) (by decide) (by ((simp only [List.length_append, List.length_cons, List.length_nil, Nat.zero_add, Nat.reduceAdd]; try rfl))) (by (first | (simp only [setB, setB0, List.append_assoc, List.cons_append, List.nil_append, List.set_cons_zero, List.set_cons_succ]; rfl) | rfl)) ?_
    refine Sto.loc (by kernel_rfl) (by kernel_rfl) ?_
    refine Exs.cons ?_
    refine Ex.assign (by rfl) ?_
    refine Ev.dictM2 G.sys (by ((simp only [List.length_append, List.length_cons, List.length_nil, Nat.zero_add, Nat.reduceAdd]; try rfl))) (by (first | (simp only [setB, setB0, List.append_assoc, List.cons_append, List.nil_append, List.set_cons_zero, List.set_cons_succ]; rfl) | rfl)) ?_
    refine Sto.loc (by kernel_rfl) (by kernel_rfl) ?_
    refine Exs.cons ?_
    refine Ex.for (fun _ => rfl) ?_
    refine Ev.call ?_
    refine Ev.bui (G.gb rfl boot_range (by decide)) rfl rfl rfl (by kernel_rfl) (by kernel_rfl) ?_
    refine ⟨_, rfl, KP.type, ?_⟩
    refine Arg.cons ?_
    refine Ev.int ?_
    refine Arg.nil ?_
    with_reducible refine Cal.range1 ?_
    refine ⟨_, Itr.rng (by decide) (by decide) (by decide) (by decide), RunAt st ns e, ⟨⟨none, none, none, List.replicate 10 3, ?_, ⟨rfl, ?_, rfl⟩⟩, by (repeat (first | assumption | with_reducible exact lk0 | with_reducible refine lkb (by kernel_rfl) ?_ | simp only [List.reverse_cons, List.reverse_nil, List.nil_append, List.cons_append])), by (repeat (first | assumption | with_reducible exact lk0 | with_reducible refine lkb (by kernel_rfl) ?_ | simp only [List.reverse_cons, List.reverse_nil, List.nil_append, List.cons_append])), by (repeat (first | assumption | with_reducible exact lk0 | with_reducible refine lkb (by kernel_rfl) ?_ | simp only [List.reverse_cons, List.reverse_nil, List.nil_append, List.cons_append])), by (repeat (first | assumption | with_reducible exact lk0 | with_reducible refine lkb (by kernel_rfl) ?_ | simp only [List.reverse_cons, List.reverse_nil, List.nil_append, List.cons_append])), by (repeat (first | assumption | with_reducible exact lk0 | with_reducible refine lkb (by kernel_rfl) ?_ | simp only [List.reverse_cons, List.reverse_nil, List.nil_append, List.cons_append]))⟩, ?_, ?_⟩
    · exact ⟨rfl, by show ∀ k, k < 10 → (List.replicate 10 (3 : Int)).getD k 0 = 3; decide +kernel⟩
    · rw [show dotsV (rowAt ns 0) = List.replicate 10 (V.str (Str.ofString ".")) from dots0.symm]
      rfl
    · rintro i ⟨loc, _, _, _⟩ u ⟨⟨lf, rt, hd, sd, ⟨hsl0, hsd⟩, rfl, rfl, rfl⟩, h1, h2, h3, h4, h5⟩ hu
      replace h1 : loc.lookup ("numbers" : Str) = _ := h1
      replace h2 : loc.lookup ("end" : Str) = _ := h2
      replace h3 : loc.lookup ("spots" : Str) = _ := h3
      replace h4 : loc.lookup ("sides" : Str) = _ := h4
      replace h5 : loc.lookup ("times" : Str) = _ := h5
      obtain ⟨hi, rfl⟩ := intsV_at hu
      have hrow := rowAt_ok ns i (by omega)
      obtain ⟨e1, e2, _, e4⟩ := edges _ hrow.1
      have hne := e2 (by omega)
      obtain ⟨p1, p2, p3⟩ := pick_mem hne (ns.getD i 0)
      have hsl := spotsN_le (rowAt ns i)
      have hpos : 0 < (spotsN (rowAt ns i)).length := List.length_pos_iff.mpr hne
      refine Asg.name ?_
      refine Sto.loc (by kernel_rfl) (by kernel_rfl) ?_
      refine Exs.cons ?_
      refine Ex.iff ?_
      refine Tst.val (fun _ => rfl) ?_
      refine Ev.call ?_
      refine Ev.glo (G.gv rfl) (fun _ _ _ => .val _) rfl rfl (by kernel_rfl) (by kernel_rfl) ?_
      refine ⟨_, rfl, (KP.fn (G.K _ _ rfl) rfl), ?_⟩
      refine Arg.cons ?_
      refine Ev.call ?_
      refine Ev.bui (G.gb rfl boot_len (by decide)) rfl rfl rfl (by kernel_rfl) (by kernel_rfl) ?_
      refine ⟨_, rfl, KP.builtin, ?_⟩
      refine Arg.cons ?_
      refine Ev.loc (by (repeat (first | assumption | with_reducible exact lk0 | with_reducible refine lkb (by kernel_rfl) ?_ | simp only [List.reverse_cons, List.reverse_nil, List.nil_append, List.cons_append]))) rfl (by kernel_rfl) (by kernel_rfl) ?_
      refine Arg.nil ?_
      refine Cal.lenL (vs := (spotsOf (rowAt ns i)).map V.int) (.inr ⟨_, rfl, by (first | assumption | (simp only [getB, getB0, List.append_assoc, List.cons_append, List.nil_append]; rfl) | rfl)⟩) (by rw [List.length_map, spotsOf_len]; omega) ?_
      refine Arg.nil ?_
      rw [List.length_map, spotsOf_len]
      refine iseof G ?_
      rw [show (((spotsN (rowAt ns i)).length : Int) == 0) = false from beq_eq_false_iff_ne.mpr (by omega)]
      refine ⟨_, rfl, ?_⟩
      rw [if_neg (by decide)]
      refine Exs.nil ?_
      refine Exs.cons ?_
      refine Ex.assign (by rfl) ?_
      refine Ev.sub ?_
      refine Ev.loc (by (repeat (first | assumption | with_reducible exact lk0 | with_reducible refine lkb (by kernel_rfl) ?_ | simp only [List.reverse_cons, List.reverse_nil, List.nil_append, List.cons_append]))) rfl (by kernel_rfl) (by kernel_rfl) ?_
      refine Ev.binop ?_
      refine Ev.sub ?_
      refine Ev.loc (by (repeat (first | assumption | with_reducible exact lk0 | with_reducible refine lkb (by kernel_rfl) ?_ | simp only [List.reverse_cons, List.reverse_nil, List.nil_append, List.cons_append]))) rfl (by kernel_rfl) (by kernel_rfl) ?_
      refine Ev.loc (by (repeat (first | assumption | with_reducible exact lk0 | with_reducible refine lkb (by kernel_rfl) ?_ | simp only [List.reverse_cons, List.reverse_nil, List.nil_append, List.cons_append]))) rfl (by kernel_rfl) (by kernel_rfl) ?_
      refine Op2.itemI (ns := ns) (fun _ _ => rfl) (by (first | exact .inl rfl | exact .inr ⟨_, rfl, by (first | assumption | (simp only [getB, getB0, List.append_assoc, List.cons_append, List.nil_append]; rfl) | rfl)⟩)) (by omega) (by omega) (by omega) ?_
      refine Ev.call ?_
      refine Ev.bui (G.gb rfl boot_len (by decide)) rfl rfl rfl (by kernel_rfl) (by kernel_rfl) ?_
      refine ⟨_, rfl, KP.builtin, ?_⟩
      refine Arg.cons ?_
      refine Ev.loc (by (repeat (first | assumption | with_reducible exact lk0 | with_reducible refine lkb (by kernel_rfl) ?_ | simp only [List.reverse_cons, List.reverse_nil, List.nil_append, List.cons_append]))) rfl (by kernel_rfl) (by kernel_rfl) ?_
      refine Arg.nil ?_
      refine Cal.lenL (vs := (spotsOf (rowAt ns i)).map V.int) (by (first | exact .inl rfl | exact .inr ⟨_, rfl, by (first | assumption | (simp only [getB, getB0, List.append_assoc, List.cons_append, List.nil_append]; rfl) | rfl)⟩)) (by rw [List.length_map, spotsOf_len]; omega) ?_
      rw [List.length_map, spotsOf_len, show ((0 : Int) + (i : Int)).toNat = i by omega]
      refine Op2.modI (by omega) ?_
      refine Op2.itemI (ns := spotsOf (rowAt ns i)) (fun _ _ => rfl) (by (first | exact .inl rfl | exact .inr ⟨_, rfl, by (first | assumption | (simp only [getB, getB0, List.append_assoc, List.cons_append, List.nil_append]; rfl) | rfl)⟩)) p3 (by rw [spotsOf_len]; exact p2) (by rw [spotsOf_len]; omega) ?_
      rw [spotsOf_get, show (spotsN (rowAt ns i)).getD ((ns.getD i 0).fmod ((spotsN (rowAt ns i)).length : Int)).toNat 0 = pick (rowAt ns i) (ns.getD i 0) from rfl]
      generalize hat : pick (rowAt ns i) (ns.getD i 0) = a at p1
      obtain ⟨q1, q2, q3⟩ := e4 a p1
      obtain ⟨b1, b2, b3, b4, b5, b6, b7⟩ := edges3 _ hrow.1 a p1
      refine Sto.loc (by kernel_rfl) (by kernel_rfl) ?_
      refine Exs.cons ?_
      refine Ex.assign (by rfl) ?_
      refine Ev.sub ?_
      refine Ev.cel rfl (by (first | assumption | (simp only [getB, getB0, List.append_assoc, List.cons_append, List.nil_append]; rfl) | rfl)) rfl (by kernel_rfl) (by kernel_rfl) ?_
      refine Ev.loc (by (repeat (first | assumption | with_reducible exact lk0 | with_reducible refine lkb (by kernel_rfl) ?_ | simp only [List.reverse_cons, List.reverse_nil, List.nil_append, List.cons_append]))) rfl (by kernel_rfl) (by kernel_rfl) ?_
      refine Op2.itemI (ns := rowAt ns i) (fun _ _ => rfl) (by (first | exact .inl rfl | exact .inr ⟨_, rfl, by (first | assumption | (simp only [getB, getB0, List.append_assoc, List.cons_append, List.nil_append]; rfl) | rfl)⟩)) (by omega) (by omega) (by omega) ?_
      refine Sto.cel2 rfl (by (first | assumption | (simp only [getB, getB0, List.append_assoc, List.cons_append, List.nil_append]; rfl) | rfl)) rfl (by kernel_rfl) (by (first | (simp only [setB, setB0, List.append_assoc, List.cons_append, List.nil_append, List.set_cons_zero, List.set_cons_succ]; rfl) | rfl)) ?_
      refine Exs.cons ?_
      refine Ex.assign (by rfl) ?_
      refine Ev.sub ?_
      refine Ev.cel rfl (by (first | assumption | (simp only [getB, getB0, List.append_assoc, List.cons_append, List.nil_append]; rfl) | rfl)) rfl (by kernel_rfl) (by kernel_rfl) ?_
      refine Ev.binop ?_
      refine Ev.loc (by (repeat (first | assumption | with_reducible exact lk0 | with_reducible refine lkb (by kernel_rfl) ?_ | simp only [List.reverse_cons, List.reverse_nil, List.nil_append, List.cons_append]))) rfl (by kernel_rfl) (by kernel_rfl) ?_
      refine Ev.int ?_
      with_reducible refine Op2.addI ?_
      refine Op2.itemI (ns := rowAt ns i) (fun _ _ => rfl) (by (first | exact .inl rfl | exact .inr ⟨_, rfl, by (first | assumption | (simp only [getB, getB0, List.append_assoc, List.cons_append, List.nil_append]; rfl) | rfl)⟩)) (by omega) (by omega) (by omega) ?_
      rw [show ((a : Int)).toNat = a by omega, show ((a : Int) + 1).toNat = a + 1 by omega]
      refine Sto.cel2 rfl (by (first | assumption | (simp only [getB, getB0, List.append_assoc, List.cons_append, List.nil_append]; rfl) | rfl)) rfl (by kernel_rfl) (by (first | (simp only [setB, setB0, List.append_assoc, List.cons_append, List.nil_append, List.set_cons_zero, List.set_cons_succ]; rfl) | rfl)) ?_
      refine Exs.cons ?_
      refine Ex.assignS (by rfl) ?_
      refine Ev.loc (by (repeat (first | assumption | with_reducible exact lk0 | with_reducible refine lkb (by kernel_rfl) ?_ | simp only [List.reverse_cons, List.reverse_nil, List.nil_append, List.cons_append]))) rfl (by kernel_rfl) (by kernel_rfl) ?_
      refine Ev.loc (by (repeat (first | assumption | with_reducible exact lk0 | with_reducible refine lkb (by kernel_rfl) ?_ | simp only [List.reverse_cons, List.reverse_nil, List.nil_append, List.cons_append]))) rfl (by kernel_rfl) (by kernel_rfl) ?_
      refine Ev.binop ?_
      refine Ev.binop ?_
      refine Ev.int ?_
      refine Ev.cel rfl (by (first | assumption | (simp only [getB, getB0, List.append_assoc, List.cons_append, List.nil_append]; rfl) | rfl)) rfl (by kernel_rfl) (by kernel_rfl) ?_
      (with_reducible refine Op2.mulI ?_ ?_; exact IntMulOk.of_left (by decide))
      refine Ev.cel rfl (by (first | assumption | (simp only [getB, getB0, List.append_assoc, List.cons_append, List.nil_append]; rfl) | rfl)) rfl (by kernel_rfl) (by kernel_rfl) ?_
      with_reducible refine Op2.addI ?_
      refine Set3.dict2 (by (first | assumption | (simp only [getB, getB0, List.append_assoc, List.cons_append, List.nil_append]; rfl) | rfl)) (Nat.le_trans (timesAt_len ns i) (by omega)) (by (first | (simp only [setB, setB0, List.append_assoc, List.cons_append, List.nil_append, List.set_cons_zero, List.set_cons_succ]; rfl) | rfl)) ?_
      refine Exs.cons ?_
      refine Ex.assign (by rfl) ?_
      refine Ev.binop ?_
      refine Ev.binop ?_
      refine Ev.upto ?_
      refine Ev.cel rfl (by (first | assumption | (simp only [getB, getB0, List.append_assoc, List.cons_append, List.nil_append]; rfl) | rfl)) rfl (by kernel_rfl) (by kernel_rfl) ?_
      refine Ev.loc (by (repeat (first | assumption | with_reducible exact lk0 | with_reducible refine lkb (by kernel_rfl) ?_ | simp only [List.reverse_cons, List.reverse_nil, List.nil_append, List.cons_append]))) rfl (by kernel_rfl) (by kernel_rfl) ?_
      refine ⟨_, rfl, ?_⟩
      refine ⟨(rowAt ns i).map V.int, by (first | exact .inl rfl | exact .inr ⟨_, rfl, by (first | assumption | (simp only [getB, getB0, List.append_assoc, List.cons_append, List.nil_append]; rfl) | rfl)⟩), by rw [List.length_map]; omega, ?_⟩
      refine Ev.listF ?_
      refine Arg.cons ?_
      refine Ev.cel rfl (by (first | assumption | (simp only [getB, getB0, List.append_assoc, List.cons_append, List.nil_append]; rfl) | rfl)) rfl (by kernel_rfl) (by kernel_rfl) ?_
      refine Arg.cons ?_
      refine Ev.cel rfl (by (first | assumption | (simp only [getB, getB0, List.append_assoc, List.cons_append, List.nil_append]; rfl) | rfl)) rfl (by kernel_rfl) (by kernel_rfl) ?_
      refine Arg.nil ?_
      refine ⟨by simp, ?_⟩
      refine Op2.addL (by (first | exact .inl rfl | exact .inr ⟨_, rfl, by (first | assumption | (simp only [getB, getB0, List.append_assoc, List.cons_append, List.nil_append]; rfl) | rfl)⟩)) (by (first | exact .inl rfl | exact .inr ⟨_, rfl, by (first | assumption | (simp only [getB, getB0, List.append_assoc, List.cons_append, List.nil_append]; rfl) | rfl)⟩)) (by simp; omega) ?_
      refine Ev.from ?_
      refine Ev.cel rfl (by (first | assumption | (simp only [getB, getB0, List.append_assoc, List.cons_append, List.nil_append]; rfl) | rfl)) rfl (by kernel_rfl) (by kernel_rfl) ?_
      refine Ev.binop ?_
      refine Ev.loc (by (repeat (first | assumption | with_reducible exact lk0 | with_reducible refine lkb (by kernel_rfl) ?_ | simp only [List.reverse_cons, List.reverse_nil, List.nil_append, List.cons_append]))) rfl (by kernel_rfl) (by kernel_rfl) ?_
      refine Ev.int ?_
      with_reducible refine Op2.addI ?_
      refine ⟨_, rfl, ?_⟩
      refine ⟨(rowAt ns i).map V.int, by (first | exact .inl rfl | exact .inr ⟨_, rfl, by (first | assumption | (simp only [getB, getB0, List.append_assoc, List.cons_append, List.nil_append]; rfl) | rfl)⟩), by rw [List.length_map]; omega, ?_⟩
      refine Op2.addL (by (first | exact .inl rfl | exact .inr ⟨_, rfl, by (first | assumption | (simp only [getB, getB0, List.append_assoc, List.cons_append, List.nil_append]; rfl) | rfl)⟩)) (by (first | exact .inl rfl | exact .inr ⟨_, rfl, by (first | assumption | (simp only [getB, getB0, List.append_assoc, List.cons_append, List.nil_append]; rfl) | rfl)⟩)) (by simp; omega) ?_
      refine Sto.cel2 rfl (by (first | assumption | (simp only [getB, getB0, List.append_assoc, List.cons_append, List.nil_append]; rfl) | rfl)) rfl (by kernel_rfl) (by (first | (simp only [setB, setB0, List.append_assoc, List.cons_append, List.nil_append, List.set_cons_zero, List.set_cons_succ]; rfl) | rfl)) ?_
      refine Exs.cons ?_
      refine Ex.delS2 ?_
      refine Ev.loc (by (repeat (first | assumption | with_reducible exact lk0 | with_reducible refine lkb (by kernel_rfl) ?_ | simp only [List.reverse_cons, List.reverse_nil, List.nil_append, List.cons_append]))) rfl (by kernel_rfl) (by kernel_rfl) ?_
      refine Ev.call ?_
      refine Ev.glo (G.gv rfl) (fun _ _ _ => .val _) rfl rfl (by kernel_rfl) (by kernel_rfl) ?_
      refine ⟨_, rfl, (KP.fn (G.K _ _ rfl) rfl), ?_⟩
      refine Arg.cons ?_
      refine Ev.loc (by (repeat (first | assumption | with_reducible exact lk0 | with_reducible refine lkb (by kernel_rfl) ?_ | simp only [List.reverse_cons, List.reverse_nil, List.nil_append, List.cons_append]))) rfl (by kernel_rfl) (by kernel_rfl) ?_
      refine Arg.cons ?_
      refine Ev.loc (by (repeat (first | assumption | with_reducible exact lk0 | with_reducible refine lkb (by kernel_rfl) ?_ | simp only [List.reverse_cons, List.reverse_nil, List.nil_append, List.cons_append]))) rfl (by kernel_rfl) (by kernel_rfl) ?_
      refine Arg.nil ?_
      refine bisect_left G (ns := spotsOf (rowAt ns i)) (by (first | exact .inl rfl | exact .inr ⟨_, rfl, by (first | assumption | (simp only [getB, getB0, List.append_assoc, List.cons_append, List.nil_append]; rfl) | rfl)⟩)) (by rw [spotsOf_len]; omega) b2 (.inl rfl) fun r hr g1 g2 => ?_
      have hrb := bl_uniq hr g1 g2
      refine ⟨_, _, (spotsOf (rowAt ns i)).map V.int, _, rfl, rfl, by (first | assumption | (simp only [getB, getB0, List.append_assoc, List.cons_append, List.nil_append]; rfl) | rfl), by omega, by rw [List.length_map]; omega, by rw [List.length_map, spotsOf_len]; omega, by (first | (simp only [setB, setB0, List.append_assoc, List.cons_append, List.nil_append, List.set_cons_zero, List.set_cons_succ]; rfl) | rfl), ?_⟩
      rw [show ((r : Int)).toNat = bl (spotsOf (rowAt ns i)) a by omega, show ((spotsOf (rowAt ns i)).map V.int).eraseIdx (bl (spotsOf (rowAt ns i)) a) = (sp0 (rowAt ns i) a).map V.int by rw [sp0, map_erase]]
      refine Exs.cons ?_
      have hr1 : rowAt ns (i + 1) = swp (rowAt ns i) a := by show swp _ (pick _ _) = _; rw [hat]
      have ht1 : timesAt ns (i + 1) = kdfPut (timesAt ns i) (keyOf (rowAt ns i) a) i := by show kdfPut _ (keyOf _ (pick _ _)) _ = _; rw [hat]
      have hl : (List.map V.int (rowAt ns i)).take a ++ [V.int ((rowAt ns i).getD (a + 1) 0), V.int ((rowAt ns i).getD a 0)] ++ (List.map V.int (rowAt ns i)).drop (a + 2) = (swp (rowAt ns i) a).map V.int := by simp [swp, List.map_take, List.map_drop]
      refine Ex.heq (hp := st.heap ++ [.cell (some (.list (LL threes))), .cell (some (.list ((swp (rowAt ns i) a).map .int))), .cell (some (.list (dotsV (rowAt ns i)))), .cell (some (.int ((rowAt ns i).getD a 0))), .cell (some (.int ((rowAt ns i).getD (a + 1) 0))), .cell hd, .list ((sp0 (rowAt ns i) a).map .int), .list (sd.map .int), .dict (timesAt ns (i + 1))]) ?_ ?_
      · rw [ht1, ← hl]
        simp only [Int.zero_add, keyOf, List.append_assoc, List.cons_append, List.nil_append]
      have hel : e.length ≤ 2 := by
        show e.cps.size ≤ 2
        rw [← Array.length_toList, he]; rcases hsep with rfl | rfl | rfl <;> decide
      refine ex_near G hrow.1 p1 (ns := ns) (e := e) (by (repeat (first | assumption | with_reducible exact lk0 | with_reducible refine lkb (by kernel_rfl) ?_ | simp only [List.reverse_cons, List.reverse_nil, List.nil_append, List.cons_append]))) ⟨by (repeat (first | assumption | with_reducible exact lk0 | with_reducible refine lkb (by kernel_rfl) ?_ | simp only [List.reverse_cons, List.reverse_nil, List.nil_append, List.cons_append])), by (repeat (first | assumption | with_reducible exact lk0 | with_reducible refine lkb (by kernel_rfl) ?_ | simp only [List.reverse_cons, List.reverse_nil, List.nil_append, List.cons_append])), by (repeat (first | assumption | with_reducible exact lk0 | with_reducible refine lkb (by kernel_rfl) ?_ | simp only [List.reverse_cons, List.reverse_nil, List.nil_append, List.cons_append])), by (repeat (first | assumption | with_reducible exact lk0 | with_reducible refine lkb (by kernel_rfl) ?_ | simp only [List.reverse_cons, List.reverse_nil, List.nil_append, List.cons_append])), by (repeat (first | assumption | with_reducible exact lk0 | with_reducible refine lkb (by kernel_rfl) ?_ | simp only [List.reverse_cons, List.reverse_nil, List.nil_append, List.cons_append]))⟩ fun loc1 g1 => ?_
      obtain ⟨k1, k2, k3, k4, k5⟩ := g1
      refine Exs.cons ?_
      refine ex_held G ?_
      refine Exs.cons ?_
      refine ex_mail G (e := e) hel k2 fun z hz => ?_
      refine Exs.cons ?_
      refine ex_dots G (z := z) (sep := sep) hsep hrow.1 p1 (by (repeat (first | assumption | with_reducible exact lk0 | with_reducible refine lkb (by kernel_rfl) ?_ | simp only [List.reverse_cons, List.reverse_nil, List.nil_append, List.cons_append]))) (he ▸ hz) ?_
      refine Exs.cons ?_
      have hso := sd_ok ns i (by omega)
      refine ex_sides G hrow.1 p1 (ns := ns) (e := e) (f := sdAt ns i) hsl0 hsd (fun k hk hh => ⟨fun z => hso k hk (.inl z), fun z => hso k hk (.inr z) ▸ way_or _ _⟩) ⟨?_, ?_, ?_, ?_, ?_⟩ fun loc2 sd2 hsl2 hsd2 g2 => ?_
      iterate 5 (repeat (first | assumption | with_reducible exact lk0 | with_reducible refine lkb (by kernel_rfl) ?_ | simp only [List.reverse_cons, List.reverse_nil, List.nil_append, List.cons_append]))
      refine Exs.nil ?_
      refine ⟨⟨some (.int ((rowAt ns i).getD a 0)), some (.int ((rowAt ns i).getD (a + 1) 0)), some (.list ((heldN (rowAt ns i) a).map fun (k : Nat) => V.int k)), sd2, ⟨hsl2, fun k hk => ?_⟩, rfl, ?_, rfl⟩, g2⟩
      · rw [hsd2 k hk]
        show _ = upS (rowAt ns i) (pick (rowAt ns i) (ns.getD i 0)) (sdAt ns i) k
        rw [hat]
      · rw [hr1]
    · have hr9 : rowAt ns 10 = row9 := (edges _ (rowAt_ok ns 10 (Nat.le_refl _)).1).2.2.1 (rowAt_ok ns 10 (Nat.le_refl _)).2
      rintro st' hR
      rw [T10, RunAt, hr9, show spotsOf row9 = [] by decide +kernel] at hR
      obtain ⟨loc, _, _, _⟩ := st'
      obtain ⟨⟨lf, rt, hd, sd, ⟨hsl0, hsd⟩, rfl, rfl, rfl⟩, h1, h2, h3, h4, h5⟩ := hR
      replace h3 : loc.lookup ("spots" : Str) = _ := h3
      replace h4 : loc.lookup ("sides" : Str) = _ := h4
      replace h5 : loc.lookup ("times" : Str) = _ := h5
      refine run_end G (B := st.heap) (rowV := .list (row9.map .int)) (dotV := .list (dotsV row9)) h3 h4 h5 ?_
      exact h _ _ _ _ _ _ _ sd hsl0 hsd

end

section
open PySem PySem.W
/-- the wires but one -/
noncomputable def others (w : Int) : List Int := ([0, 1, 2, 3, 4] : List Int).filter fun x => decide (x ≠ w)
noncomputable def triIdx (l : List Int) : Nat := threes.idxOf l
noncomputable def lostAt (w : Int) (j : Nat) : Int := (others w).reverse.getD j 0
noncomputable def triLost (w : Int) (j : Nat) : List Int := (others w).filter fun x => decide (x ≠ lostAt w j)
noncomputable def alongAt (sd : List Int) (w : Int) (j : Nat) : Int := sd.getD (triIdx (triLost w j)) 0
noncomputable def alongOf (sd : List Int) (w : Int) : List Int := (List.range 4).map (alongAt sd w)
theorem others_len : ∀ w ∈ [(0 : Int), 1, 2, 3, 4], (others w).length = 4 := by decide +kernel
theorem tri_ok : ∀ w ∈ [(0 : Int), 1, 2, 3, 4], ∀ j ∈ List.range 4, threes[triIdx (triLost w j)]? = some (triLost w j) ∧ triIdx (triLost w j) < 10 ∧ ∀ m, m < triIdx (triLost w j) → threes[m]? ≠ some (triLost w j) := by
  have h : ∀ w ∈ [(0 : Int), 1, 2, 3, 4], ∀ j ∈ List.range 4, threes[triIdx (triLost w j)]? = some (triLost w j) ∧ triIdx (triLost w j) < 10 ∧ ∀ m ∈ List.range (triIdx (triLost w j)), threes[m]? ≠ some (triLost w j) := by decide +kernel
  intro w hw j hj
  obtain ⟨h1, h2, h3⟩ := h w hw j hj
  exact ⟨h1, h2, fun m hm => h3 m (List.mem_range.mpr hm)⟩
theorem filt_take {f : Int → Bool} {l : List Int} {m : Nat} {x : Int} (h : l[m]? = some x) : ((l.take (m + 1)).filter f).map V.int = ((l.take m).filter f).map V.int ++ if f x = true then [V.int x] else [] := by
  rw [List.take_succ, h, List.filter_append, List.map_append]
  cases e : f x <;> simp [e]
theorem int_at {l : List Int} {m : Nat} {u : V} (h : (l.map V.int)[m]? = some u) : ∃ x, l[m]? = some x ∧ u = .int x := by
  rw [List.getElem?_map] at h
  cases e : l[m]? with
  | none => rw [e] at h; simp at h
  | some x => rw [e] at h; exact ⟨x, rfl, by simpa using h.symm⟩
theorem others_eq (w : Int) : ((List.range (intsV 0 5).length).filter fun (k : Nat) => decide ((k : Int) ≠ w)).map (fun (k : Nat) => V.int k) = (others w).map V.int := by
  show ((List.range 5).filter fun (k : Nat) => decide ((k : Int) ≠ w)).map (fun (k : Nat) => V.int k) = _
  have : ([0, 1, 2, 3, 4] : List Int) = (List.range 5).map fun (k : Nat) => (k : Int) := rfl
  rw [others, this, List.filter_map, List.map_map]; rfl
theorem filt_len {p : Int → Bool} {l : List Int} {r : Nat} (hr : r ≤ l.length) (h1 : ∀ (j : Nat) (y : Int), j < r → l[j]? = some y → p y = true) (h2 : ∀ (j : Nat) (y : Int), r ≤ j → l[j]? = some y → p y = false) : (l.filter p).length = r := by
  rw [← List.take_append_drop r l, List.filter_append, List.length_append, List.filter_eq_self.mpr, List.filter_eq_nil_iff.mpr]
  · simp [hr]
  · intro a ha
    obtain ⟨j, hj, e⟩ := List.mem_iff_getElem.mp ha
    rw [List.getElem_drop] at e
    rw [h2 (r + j) a (by omega) (by rw [← e]; exact List.getElem?_eq_getElem _)]; simp
  · intro a ha
    obtain ⟨j, hj, e⟩ := List.mem_iff_getElem.mp ha
    rw [List.getElem_take] at e
    rw [List.length_take] at hj
    exact h1 j a (by omega) (by rw [← e]; exact List.getElem?_eq_getElem _)

end

section
open PySem PySem.W
noncomputable def wires : List Int := [0, 1, 2, 3, 4]
noncomputable def keyP (a b : Int) : Int := 10 * (if b < a then b else a) + (if b > a then b else a)
noncomputable def tmAt (es : List (Int × Int)) (w o : Int) : Int := kdfLook es (keyP w o) 0
noncomputable def srt3 (w o t : Int) : List Int := wires.filter fun x => decide (x = w ∨ x = o ∨ x = t)
noncomputable def condM (sd : List Int) (w o t : Int) : Bool := decide (t ≠ o) && (((sd.getD (triIdx (srt3 w o t)) 0 == 4) == decide (t < o)))
theorem srt3_ok : ∀ w ∈ wires, ∀ o ∈ others w, ∀ t ∈ others w, t ≠ o → (srt3 w o t).Perm [w, o, t] ∧ (srt3 w o t).Pairwise (· ≤ ·) ∧ threes[triIdx (srt3 w o t)]? = some (srt3 w o t) ∧ triIdx (srt3 w o t) < 10 ∧ ∀ m, m < triIdx (srt3 w o t) → threes[m]? ≠ some (srt3 w o t) := by
  have h : ∀ w ∈ wires, ∀ o ∈ others w, ∀ t ∈ others w, t ≠ o → (srt3 w o t).Perm [w, o, t] ∧ (srt3 w o t).Pairwise (· ≤ ·) ∧ threes[triIdx (srt3 w o t)]? = some (srt3 w o t) ∧ triIdx (srt3 w o t) < 10 ∧ ∀ m ∈ List.range (triIdx (srt3 w o t)), threes[m]? ≠ some (srt3 w o t) := by decide +kernel
  intro w hw o ho t ht hto
  obtain ⟨h1, h2, h3, h4, h5⟩ := h w hw o ho t ht hto
  exact ⟨h1, h2, h3, h4, fun m hm => h5 m (List.mem_range.mpr hm)⟩
theorem srt3_uniq {w o t : Int} (hw : w ∈ wires) (ho : o ∈ others w) (ht : t ∈ others w) (hto : t ≠ o) {l : List Int} (hp : l.Perm [w, o, t]) (hs : l.Pairwise (· ≤ ·)) : l = srt3 w o t := by
  obtain ⟨h1, h2, _⟩ := srt3_ok w hw o ho t ht hto
  exact List.Perm.eq_of_pairwise (fun a b _ _ h1 h2 => Int.le_antisymm h1 h2) hs h2 (hp.trans h1.symm)
theorem ins_perm {l : List Int} {r : Nat} {i : Int} : (l.take r ++ i :: l.drop r).Perm (i :: l) := by
  have := List.perm_middle (a := i) (l₁ := l.take r) (l₂ := l.drop r)
  rwa [List.take_append_drop] at this
theorem ins_sorted {l : List Int} {r : Nat} {i : Int} (hl : l.Pairwise (· ≤ ·)) (h1 : ∀ (j : Nat) (x : Int), j < r → l[j]? = some x → x ≤ i) (h2 : ∀ (j : Nat) (x : Int), r ≤ j → l[j]? = some x → i < x) : (l.take r ++ i :: l.drop r).Pairwise (· ≤ ·) := by
  have hl' := hl
  rw [← List.take_append_drop r l] at hl'
  obtain ⟨p1, p2, p3⟩ := List.pairwise_append.mp hl'
  have ht : ∀ x ∈ l.take r, x ≤ i := fun x hx => by
    obtain ⟨j, hj, e⟩ := List.mem_iff_getElem.mp hx
    rw [List.length_take] at hj
    rw [List.getElem_take] at e
    exact h1 j x (by omega) (by rw [← e]; exact List.getElem?_eq_getElem _)
  have hd : ∀ x ∈ l.drop r, i < x := fun x hx => by
    obtain ⟨j, hj, e⟩ := List.mem_iff_getElem.mp hx
    rw [List.getElem_drop] at e
    exact h2 (r + j) x (by omega) (by rw [← e]; exact List.getElem?_eq_getElem _)
  refine List.pairwise_append.mpr ⟨p1, List.pairwise_cons.mpr ⟨fun x hx => Int.le_of_lt (hd x hx), p2⟩, fun a ha b hb => ?_⟩
  rcases List.mem_cons.mp hb with rfl | hb
  · exact ht a ha
  · exact Int.le_trans (ht a ha) (Int.le_of_lt (hd b hb))
theorem filt_take2 {f : Int → Bool} {l : List Int} {m : Nat} {x : Int} (h : l[m]? = some x) : ((l.take (m + 1)).filter f).length = ((l.take m).filter f).length + if f x = true then 1 else 0 := by
  rw [List.take_succ, h, List.filter_append, List.length_append]
  cases e : f x <;> simp [e]
theorem mem_of_at {l : List Int} {m : Nat} {x : Int} (h : l[m]? = some x) : x ∈ l := List.mem_of_getElem? h
theorem take_map {f : Int → Int} {l : List Int} {m : Nat} {x : Int} (h : l[m]? = some x) : (l.take (m + 1)).map f = (l.take m).map f ++ [f x] := by
  rw [List.take_succ, h, List.map_append]; rfl

end

section
open PySem PySem.Calls PyProof.Rows PySem.W
set_option maxHeartbeats 1000000 in
/-- bisect_right with a key that is a lambda: κ -/
theorem bisect_key {Γ : Gam} {n env st} {Q : V → St → Prop} (G : Grd Γ (K0 Γ)) {v : V} {i : Int} {ns : List Int} {nm q ps ee sc x k} (κ : Int → Int) (hl : st.lst v (ns.map .int)) (hlen : ns.length ≤ 1000)
    (hkey : ∀ y env loc cl Q', Q' (.int (κ y)) { loc := loc, cl := cl, heap := st.heap, pin := st.pin } → Cal Γ (n + 1) env { loc := loc, cl := cl, heap := st.heap, pin := st.pin } (.lam nm q ps ee sc x k) [.int y] Q')
    (hsort : ∀ (j l : Nat) (y z : Int), j ≤ l → ns[j]? = some y → ns[l]? = some z → i < κ y → i < κ z)
    (h : ∀ r : Nat, r ≤ ns.length → (∀ (j : Nat) (y : Int), j < r → ns[j]? = some y → ¬ i < κ y) → (∀ (j : Nat) (y : Int), r ≤ j → ns[j]? = some y → i < κ y) → Q (.int r) st) : CalK Γ (n + 2) env st (.val (.ref 56)) [v, .int i] "key" (.lam nm q ps ee sc x k) Q := by
  refine CalK.fn (bv := [("a", v), ("x", .int i), ("lo", .int 0), ("hi", .none), ("key", .lam nm q ps ee sc x k)]) (G.def (a := 56) rfl rfl) rfl ?_ ?_ ?_ ?_
  · intro s as b ρ φ hi hv hw
    cases hv with | cons h1 h2 => cases h2 with | cons h2 h3 =>
      cases h3
      exact ⟨_, kp_binds (G.In hi) (fun S => rfl), .cons h1 (.cons h2 (.cons (.int _ _) (.cons .none (.cons hw .nil))))⟩
  · kernel_rfl
  · kernel_rfl
  · intro L
    refine Exs.cons ?_
    refine Ex.iff ?_
    refine Tst.cmp (by kernel_rfl) ?_
    refine Ev.loc (by (repeat (first | assumption | with_reducible exact lk0 | with_reducible refine lkb (by kernel_rfl) ?_ | simp only [List.reverse_cons, List.reverse_nil, List.nil_append, List.cons_append]))) rfl (by kernel_rfl) (by kernel_rfl) ?_
    refine Ev.int ?_
    with_reducible refine Op2.ltI ?_
    refine ⟨_, rfl, ?_⟩
    rw [if_neg (by decide)]
    refine Exs.nil ?_
    refine Exs.cons ?_
    refine Ex.iff ?_
    refine Tst.cmp (by kernel_rfl) ?_
    refine Ev.loc (by (repeat (first | assumption | with_reducible exact lk0 | with_reducible refine lkb (by kernel_rfl) ?_ | simp only [List.reverse_cons, List.reverse_nil, List.nil_append, List.cons_append]))) rfl (by kernel_rfl) (by kernel_rfl) ?_
    refine Ev.none ?_
    with_reducible refine Op2.isNN ?_
    refine ⟨_, rfl, ?_⟩
    rw [if_pos rfl]
    refine Exs.cons ?_
    refine Ex.assign (by rfl) ?_
    refine Ev.call ?_
    refine Ev.bui (G.gb rfl boot_len (by decide)) rfl rfl rfl (by kernel_rfl) (by kernel_rfl) ?_
    refine ⟨_, rfl, KP.builtin, ?_⟩
    refine Arg.cons ?_
    refine Ev.loc (by (repeat (first | assumption | with_reducible exact lk0 | with_reducible refine lkb (by kernel_rfl) ?_ | simp only [List.reverse_cons, List.reverse_nil, List.nil_append, List.cons_append]))) rfl (by kernel_rfl) (by kernel_rfl) ?_
    refine Arg.nil ?_
    refine Cal.lenL hl (by simpa using hlen) ?_
    rw [List.length_map]
    refine Sto.loc (by kernel_rfl) (by kernel_rfl) ?_
    refine Exs.nil ?_
    refine Exs.cons ?_
    refine Ex.iff ?_
    refine Tst.cmp (by kernel_rfl) ?_
    refine Ev.loc (by (repeat (first | assumption | with_reducible exact lk0 | with_reducible refine lkb (by kernel_rfl) ?_ | simp only [List.reverse_cons, List.reverse_nil, List.nil_append, List.cons_append]))) rfl (by kernel_rfl) (by kernel_rfl) ?_
    refine Ev.none ?_
    refine Op2.isLam ?_
    refine ⟨_, rfl, ?_⟩
    rw [if_neg (by decide)]
    refine Exs.cons ?_
    refine Ex.while (I := fun m st' => ∃ loc, ∃ lo hi : Nat, st' = { loc := loc, cl := [], heap := st.heap, pin := st.pin } ∧ loc.lookup ("a" : Str) = some v ∧ loc.lookup ("x" : Str) = some (.int i) ∧ loc.lookup ("key" : Str) = some (.lam nm q ps ee sc x k) ∧ loc.lookup ("lo" : Str) = some (.int lo) ∧ loc.lookup ("hi" : Str) = some (.int hi) ∧ lo ≤ hi ∧ hi ≤ ns.length ∧ m = hi - lo ∧
      (∀ (j : Nat) (y : Int), j < lo → ns[j]? = some y → ¬ i < κ y) ∧ (∀ (j : Nat) (y : Int), hi ≤ j → ns[j]? = some y → i < κ y)) ns.length ⟨_, 0, ns.length, rfl, ?_, ?_, ?_, ?_, ?_, Nat.zero_le _, Nat.le_refl _, rfl, fun j x h => absurd h (Nat.not_lt_zero _), fun j x h e => ?_⟩ ?_
    · (repeat (first | assumption | with_reducible exact lk0 | with_reducible refine lkb (by kernel_rfl) ?_ | simp only [List.reverse_cons, List.reverse_nil, List.nil_append, List.cons_append]))
    · (repeat (first | assumption | with_reducible exact lk0 | with_reducible refine lkb (by kernel_rfl) ?_ | simp only [List.reverse_cons, List.reverse_nil, List.nil_append, List.cons_append]))
    · (repeat (first | assumption | with_reducible exact lk0 | with_reducible refine lkb (by kernel_rfl) ?_ | simp only [List.reverse_cons, List.reverse_nil, List.nil_append, List.cons_append]))
    · rfl
    · (repeat (first | assumption | with_reducible exact lk0 | with_reducible refine lkb (by kernel_rfl) ?_ | simp only [List.reverse_cons, List.reverse_nil, List.nil_append, List.cons_append]))
    · rw [List.getElem?_eq_none h] at e; cases e
    · rintro m st' ⟨loc, lo, hi, rfl, ha, hx, hky, hlo, hhi, h1, h2, rfl, hL, hR⟩
      refine Tst.cmp (by kernel_rfl) ?_
      refine Ev.loc (by (repeat (first | assumption | with_reducible exact lk0 | with_reducible refine lkb (by kernel_rfl) ?_ | simp only [List.reverse_cons, List.reverse_nil, List.nil_append, List.cons_append]))) rfl (by kernel_rfl) (by kernel_rfl) ?_
      refine Ev.loc (by (repeat (first | assumption | with_reducible exact lk0 | with_reducible refine lkb (by kernel_rfl) ?_ | simp only [List.reverse_cons, List.reverse_nil, List.nil_append, List.cons_append]))) rfl (by kernel_rfl) (by kernel_rfl) ?_
      with_reducible refine Op2.ltI ?_
      refine ⟨_, rfl, ?_⟩
      by_cases hlt : (lo : Int) < hi
      · rw [if_pos (decide_eq_true hlt)]
        refine Exs.cons ?_
        refine Ex.assign (by rfl) ?_
        refine Ev.binop ?_
        refine Ev.binop ?_
        refine Ev.loc (by (repeat (first | assumption | with_reducible exact lk0 | with_reducible refine lkb (by kernel_rfl) ?_ | simp only [List.reverse_cons, List.reverse_nil, List.nil_append, List.cons_append]))) rfl (by kernel_rfl) (by kernel_rfl) ?_
        refine Ev.loc (by (repeat (first | assumption | with_reducible exact lk0 | with_reducible refine lkb (by kernel_rfl) ?_ | simp only [List.reverse_cons, List.reverse_nil, List.nil_append, List.cons_append]))) rfl (by kernel_rfl) (by kernel_rfl) ?_
        with_reducible refine Op2.addI ?_
        refine Ev.int ?_
        refine Op2.fdivI (by decide) (by decide) ?_
        have hm : ((lo : Int) + (hi : Int)).fdiv 2 = (((lo + hi) / 2 : Nat) : Int) := by
          rw [Int.fdiv_eq_ediv_of_nonneg _ (by decide)]; omega
        rw [hm]
        generalize hmid : (lo + hi) / 2 = mid
        have hmlt : mid < ns.length := by omega
        have h3 : ns[mid]? = some ns[mid] := List.getElem?_eq_getElem hmlt
        refine Sto.loc (by kernel_rfl) (by kernel_rfl) ?_
        refine Exs.cons ?_
        refine Ex.iff ?_
        refine Tst.cmp (by kernel_rfl) ?_
        refine Ev.loc (by (repeat (first | assumption | with_reducible exact lk0 | with_reducible refine lkb (by kernel_rfl) ?_ | simp only [List.reverse_cons, List.reverse_nil, List.nil_append, List.cons_append]))) rfl (by kernel_rfl) (by kernel_rfl) ?_

        refine Ev.callL (nm := nm) (q := q) (ps := ps) (ee := ee) (sc := sc) (x := x) (k := k) ?_
        refine Ev.loc (by (repeat (first | assumption | with_reducible exact lk0 | with_reducible refine lkb (by kernel_rfl) ?_ | simp only [List.reverse_cons, List.reverse_nil, List.nil_append, List.cons_append]))) rfl (by kernel_rfl) (by kernel_rfl) ?_
        refine ⟨rfl, ?_⟩
        refine Arg.cons ?_
        refine Ev.sub ?_
        refine Ev.loc (by (repeat (first | assumption | with_reducible exact lk0 | with_reducible refine lkb (by kernel_rfl) ?_ | simp only [List.reverse_cons, List.reverse_nil, List.nil_append, List.cons_append]))) rfl (by kernel_rfl) (by kernel_rfl) ?_
        refine Ev.loc (by (repeat (first | assumption | with_reducible exact lk0 | with_reducible refine lkb (by kernel_rfl) ?_ | simp only [List.reverse_cons, List.reverse_nil, List.nil_append, List.cons_append]))) rfl (by kernel_rfl) (by kernel_rfl) ?_
        refine Op2.itemL (fun _ _ => rfl) hl (Int.natCast_nonneg _) (x := .int ns[mid]) (by simp [hmlt]) (by omega) ?_
        refine Arg.nil ?_
        refine hkey _ _ _ _ _ ?_
        with_reducible refine Op2.ltI ?_
        refine ⟨_, rfl, ?_⟩
        by_cases hx2 : i < κ ns[mid]
        · rw [if_pos (decide_eq_true hx2)]
          refine Exs.cons ?_
          refine Ex.assign (by rfl) ?_
          refine Ev.loc (by (repeat (first | assumption | with_reducible exact lk0 | with_reducible refine lkb (by kernel_rfl) ?_ | simp only [List.reverse_cons, List.reverse_nil, List.nil_append, List.cons_append]))) rfl (by kernel_rfl) (by kernel_rfl) ?_
          refine Sto.loc (by kernel_rfl) (by kernel_rfl) ?_
          refine Exs.nil ?_
          refine Exs.nil ?_
          refine ⟨mid - lo, by omega, _, lo, mid, rfl, lk (lk ha), lk (lk hx), lk (lk hky), lk (lk hlo), by rfl, by omega, by omega, rfl, hL, fun j x hj e => ?_⟩
          exact hsort _ _ _ _ hj h3 e hx2
        · rw [if_neg (by simpa using hx2)]
          refine Exs.cons ?_
          refine Ex.assign (by rfl) ?_
          refine Ev.binop ?_
          refine Ev.loc (by (repeat (first | assumption | with_reducible exact lk0 | with_reducible refine lkb (by kernel_rfl) ?_ | simp only [List.reverse_cons, List.reverse_nil, List.nil_append, List.cons_append]))) rfl (by kernel_rfl) (by kernel_rfl) ?_
          refine Ev.int ?_
          with_reducible refine Op2.addI ?_
          refine Sto.loc (by kernel_rfl) (by kernel_rfl) ?_
          refine Exs.nil ?_
          refine Exs.nil ?_
          refine ⟨hi - (mid + 1), by omega, _, mid + 1, hi, rfl, lk (lk ha), lk (lk hx), lk (lk hky), by rfl, lk (lk hhi), by omega, h2, rfl, fun j x hj e z => ?_, hR⟩
          exact hx2 (hsort _ _ _ _ (by omega) e h3 z)
      · rw [if_neg (by simpa using hlt)]
        refine Exs.nil ?_
        refine Exs.cons ?_
        refine Ex.ret ?_
        refine Ev.loc (by (repeat (first | assumption | with_reducible exact lk0 | with_reducible refine lkb (by kernel_rfl) ?_ | simp only [List.reverse_cons, List.reverse_nil, List.nil_append, List.cons_append]))) rfl (by kernel_rfl) (by kernel_rfl) ?_
        exact h lo (by omega) hL (fun j x hj e => hR j x (by omega) e)

end

section
open PySem PySem.Calls PyProof.Rows PySem.W

noncomputable abbrev frs (Γ : Gam) (i : Nat) : Stmt := stmtAt (forBody (stmtAt (stmtsOf (fdOf Γ 125)) 1)) i
noncomputable abbrev clF (B : Nat) : List (Str × Nat) := [("absent", B), ("lost", B + 1), ("first", B + 2)]

set_option maxHeartbeats 1000000 in
theorem fr_four {Γ : Gam} {n L} {Q : Fl → St → Prop} (G : Grd Γ (K0 Γ)) {loc : List (Str × V)} {B : List O} {pin c1 c2} {w : Int}
    (h : Q .next { loc := ("four", .list ((others w).map .int)) :: loc, cl := clF B.length, heap := B ++ [.cell (some (.int w)), c1, c2], pin := pin }) :
    Ex Γ (n + 3) (callEnvC (fdOf Γ 125) L 125) { loc := loc, cl := clF B.length, heap := B ++ [.cell (some (.int w)), c1, c2], pin := pin } (frs Γ 0) Q := by
  refine Ex.assignC ⟨fun _ => rfl, by kernel_rfl, by kernel_rfl, rfl, by kernel_rfl⟩ (by rfl) ?_
  unfold Cmp
  refine Ev.call ?_
  refine Ev.bui (G.gb rfl boot_range (by decide)) rfl rfl rfl (by kernel_rfl) (by kernel_rfl) ?_
  refine ⟨_, rfl, KP.type, ?_⟩
  refine Arg.cons ?_
  refine Ev.int ?_
  refine Arg.nil ?_
  with_reducible refine Cal.range1 ?_
  refine ⟨_, Itr.rng (by decide) (by decide) (by decide) (by decide), ?_⟩
  refine cmp2 [("absent", B.length)] (by rfl) (by (first | (simp only [setB, setB0, List.append_assoc, List.cons_append, List.nil_append, List.set_cons_zero, List.set_cons_succ]; rfl) | rfl)) (by ((simp only [List.length_append, List.length_cons, List.length_nil, Nat.zero_add, Nat.reduceAdd]; try rfl))) fun C => ?_
  refine CL.last (by rfl) (by rfl) (fun j => At [("absent", B.length)] (B ++ [.cell (some (.int w)), c1, c2, .list (((List.range j).filter fun (k : Nat) => decide ((k : Int) ≠ w)).map fun (k : Nat) => V.int k)]) pin) ⟨rfl, rfl, rfl⟩ ?_ ?_
  · rintro j ⟨loc, _, _, pin⟩ u ⟨rfl, rfl, rfl⟩ hu
    obtain ⟨hj, rfl⟩ := intsV_at hu
    refine Asg.name ?_
    refine Sto.loc (by kernel_rfl) (by kernel_rfl) ?_
    refine Ifs.one ?_
    refine Tst.cmp (by kernel_rfl) ?_
    refine Ev.loc (by (repeat (first | assumption | with_reducible exact lk0 | with_reducible refine lkb (by kernel_rfl) ?_ | simp only [List.reverse_cons, List.reverse_nil, List.nil_append, List.cons_append]))) rfl (by kernel_rfl) (by kernel_rfl) ?_
    refine Ev.cel rfl (by (first | assumption | (simp only [getB, getB0, List.append_assoc, List.cons_append, List.nil_append]; rfl) | rfl)) rfl (by kernel_rfl) (by kernel_rfl) ?_
    with_reducible refine Op2.neI ?_
    refine ⟨_, rfl, ?_⟩
    rw [Int.zero_add]
    by_cases hc : (j : Int) = w
    · rw [if_neg (show ¬ ((j : Int) != w) = true from fun z => (bne_iff_ne.mp z) hc)]
      refine ⟨rfl, ?_, rfl⟩
      rw [filt_succ, if_neg (by simpa using hc), List.append_nil]
    · rw [if_pos (show ((j : Int) != w) = true from bne_iff_ne.mpr hc)]
      refine Ev.loc (by (repeat (first | assumption | with_reducible exact lk0 | with_reducible refine lkb (by kernel_rfl) ?_ | simp only [List.reverse_cons, List.reverse_nil, List.nil_append, List.cons_append]))) rfl (by kernel_rfl) (by kernel_rfl) ?_
      refine ⟨_, by (first | assumption | (simp only [getB, getB0, List.append_assoc, List.cons_append, List.nil_append]; rfl) | rfl), ?_, rfl, ?_, rfl⟩
      · simp only [List.length_map]
        exact Nat.le_trans (List.length_filter_le _ _) (by simp; omega)
      · simp only [setB, List.set_cons_zero, List.set_cons_succ, filt_succ]
        rw [if_pos (by simpa using hc)]
  · rintro ⟨loc, _, _, _⟩ ⟨rfl, rfl, rfl⟩
    refine ⟨(others w).map V.int, ?_, Fzs.map _ (fun k => .int _) _, ?_⟩
    · simp only [List.append_assoc, List.cons_append, List.nil_append]
      rw [others_eq]
    refine Sto.loc (by kernel_rfl) (by kernel_rfl) ?_
    exact h

set_option maxHeartbeats 2000000 in
theorem fr_lost {Γ : Gam} {n L} {Q : Fl → St → Prop} (G : Grd Γ (K0 Γ)) {loc : List (Str × V)} {B : List O} {pin c0 c1 c2} {w : Int} {sd : List Int} {v : V} (hw : w ∈ [(0 : Int), 1, 2, 3, 4]) (hsd : sd.length = 10) (hv : ∀ loc cl l pin, St.lst ⟨loc, cl, B ++ l, pin⟩ v (sd.map .int))
    (h1 : loc.lookup ("four" : Str) = some (.list ((others w).map .int))) (h2 : loc.lookup ("threes" : Str) = some (.list (LL threes))) (h3 : loc.lookup ("sides" : Str) = some v) (h4 : loc.lookup ("along" : Str) = some (.obj (B.length + 3)))
    (h : ∀ x : Int, Q .next { loc := loc, cl := clF B.length, heap := B ++ [c0, .cell (some (.int x)), c2, .list ((alongOf sd w).map .int)], pin := pin }) :
    Ex Γ (n + 3) (callEnvC (fdOf Γ 125) L 125) { loc := loc, cl := clF B.length, heap := B ++ [c0, .cell c1, c2, .list []], pin := pin } (frs Γ 2) Q := by
  have hol := others_len w hw
  refine Ex.for (fun _ => rfl) ?_
  refine Ev.rev (fun a b => ⟨_, rfl⟩) ?_
  refine Ev.loc (by (repeat (first | assumption | with_reducible exact lk0 | with_reducible refine lkb (by kernel_rfl) ?_ | simp only [List.reverse_cons, List.reverse_nil, List.nil_append, List.cons_append]))) rfl (by kernel_rfl) (by kernel_rfl) ?_
  refine Ev.negI ?_
  refine Ev.int ?_
  refine ⟨_, rfl, ?_⟩
  refine ⟨rfl, _, .inl rfl, by rw [List.length_map]; omega, ?_⟩
  refine ⟨_, Itr.list (by rw [List.length_reverse, List.length_map]; omega), fun (j : Nat) (st' : St) => ∃ c, At (clF B.length) (B ++ [c0, .cell c, c2, .list (((List.range j).map (alongAt sd w)).map .int)]) pin st' ∧ st'.loc = loc ∧ (0 < j → ∃ x : Int, c = some (.int x)), ⟨_, ⟨rfl, rfl, rfl⟩, rfl, fun z => absurd z (by omega)⟩, ?_, ?_⟩
  · rintro j ⟨_, _, _, pin⟩ u ⟨c, ⟨rfl, rfl, rfl⟩, rfl, _⟩ hu
    rw [← List.map_reverse] at hu
    obtain ⟨x, hx, rfl⟩ := int_at hu
    have hj : j < 4 := by have := (List.getElem?_eq_some_iff.mp hx).1; rw [List.length_reverse] at this; omega
    obtain rfl : x = lostAt w j := by rw [lostAt, List.getD_eq_getElem?_getD, hx]; rfl
    obtain ⟨t1, t2, t3⟩ := tri_ok w hw j (List.mem_range.mpr hj)
    refine Asg.name ?_
    refine Sto.cel2 rfl (by (first | assumption | (simp only [getB, getB0, List.append_assoc, List.cons_append, List.nil_append]; rfl) | rfl)) rfl (by kernel_rfl) (by (first | (simp only [setB, setB0, List.append_assoc, List.cons_append, List.nil_append, List.set_cons_zero, List.set_cons_succ]; rfl) | rfl)) ?_
    refine Exs.cons ?_
    refine Ex.expr (by rfl) (by rfl) ?_
    refine Ev.mth F.plainAttrs_list F.slot_list_append F.type_list_append rfl (by kernel_rfl) (by kernel_rfl) ?_
    refine Ev.loc (by (repeat (first | assumption | with_reducible exact lk0 | with_reducible refine lkb (by kernel_rfl) ?_ | simp only [List.reverse_cons, List.reverse_nil, List.nil_append, List.cons_append]))) rfl (by kernel_rfl) (by kernel_rfl) ?_
    refine ⟨TyIs.obj (vs := ((List.range j).map (alongAt sd w)).map .int) (by (first | assumption | (simp only [getB, getB0, List.append_assoc, List.cons_append, List.nil_append]; rfl) | rfl)), ?_⟩
    refine Arg.cons ?_
    refine Ev.sub ?_
    refine Ev.loc (by (repeat (first | assumption | with_reducible exact lk0 | with_reducible refine lkb (by kernel_rfl) ?_ | simp only [List.reverse_cons, List.reverse_nil, List.nil_append, List.cons_append]))) rfl (by kernel_rfl) (by kernel_rfl) ?_
    refine Ev.mth F.plainAttrs_list F.slot_list_index F.type_list_index rfl (by kernel_rfl) (by kernel_rfl) ?_
    refine Ev.loc (by (repeat (first | assumption | with_reducible exact lk0 | with_reducible refine lkb (by kernel_rfl) ?_ | simp only [List.reverse_cons, List.reverse_nil, List.nil_append, List.cons_append]))) rfl (by kernel_rfl) (by kernel_rfl) ?_
    refine ⟨TyIs.list, ?_⟩
    refine Arg.cons ?_
    refine Ev.comp ⟨fun _ => rfl, by kernel_rfl, by kernel_rfl, rfl, by kernel_rfl⟩ ?_
    unfold Cmp
    refine Ev.loc (by (repeat (first | assumption | with_reducible exact lk0 | with_reducible refine lkb (by kernel_rfl) ?_ | simp only [List.reverse_cons, List.reverse_nil, List.nil_append, List.cons_append]))) rfl (by kernel_rfl) (by kernel_rfl) ?_
    refine ⟨_, Itr.list (by rw [List.length_map]; omega), ?_⟩
    refine cmp2 [("lost", B.length + 1)] (by rfl) (by (first | (simp only [setB, setB0, List.append_assoc, List.cons_append, List.nil_append, List.set_cons_zero, List.set_cons_succ]; rfl) | rfl)) (by ((simp only [List.length_append, List.length_cons, List.length_nil, Nat.zero_add, Nat.reduceAdd]; try rfl))) fun C => ?_
    refine CL.last (by rfl) (by rfl) (fun m => At [("lost", B.length + 1)] (B ++ [c0, .cell (some (.int (lostAt w j))), c2, .list (((List.range j).map (alongAt sd w)).map .int), .list ((((others w).take m).filter fun x => decide (x ≠ lostAt w j)).map .int)]) pin) ⟨rfl, rfl, rfl⟩ ?_ ?_
    · rintro m ⟨loc, _, _, pin⟩ u ⟨rfl, rfl, rfl⟩ hu
      obtain ⟨x, hx, rfl⟩ := int_at hu
      refine Asg.name ?_
      refine Sto.loc (by kernel_rfl) (by kernel_rfl) ?_
      refine Ifs.one ?_
      refine Tst.cmp (by kernel_rfl) ?_
      refine Ev.loc (by (repeat (first | assumption | with_reducible exact lk0 | with_reducible refine lkb (by kernel_rfl) ?_ | simp only [List.reverse_cons, List.reverse_nil, List.nil_append, List.cons_append]))) rfl (by kernel_rfl) (by kernel_rfl) ?_
      refine Ev.cel rfl (by (first | assumption | (simp only [getB, getB0, List.append_assoc, List.cons_append, List.nil_append]; rfl) | rfl)) rfl (by kernel_rfl) (by kernel_rfl) ?_
      with_reducible refine Op2.neI ?_
      refine ⟨_, rfl, ?_⟩
      by_cases hc : x = lostAt w j
      · rw [if_neg (show ¬ (x != lostAt w j) = true from fun z => (bne_iff_ne.mp z) hc)]
        refine ⟨rfl, ?_, rfl⟩
        rw [filt_take hx, if_neg (by simpa using hc), List.append_nil]
      · rw [if_pos (show (x != lostAt w j) = true from bne_iff_ne.mpr hc)]
        refine Ev.loc (by (repeat (first | assumption | with_reducible exact lk0 | with_reducible refine lkb (by kernel_rfl) ?_ | simp only [List.reverse_cons, List.reverse_nil, List.nil_append, List.cons_append]))) rfl (by kernel_rfl) (by kernel_rfl) ?_
        refine ⟨_, by (first | assumption | (simp only [getB, getB0, List.append_assoc, List.cons_append, List.nil_append]; rfl) | rfl), ?_, rfl, ?_, rfl⟩
        · simp only [List.length_map]
          exact Nat.le_trans (List.length_filter_le _ _) (by rw [List.length_take]; omega)
        · simp only [setB, List.set_cons_zero, List.set_cons_succ, filt_take hx]
          rw [if_pos (by simpa using hc)]
    · rintro ⟨loc, _, _, _⟩ ⟨rfl, rfl, rfl⟩
      refine ⟨(triLost w j).map V.int, ?_, Fzs.map _ (fun k => .int _) _, ?_⟩
      · simp only [List.append_assoc, List.cons_append, List.nil_append]
        rw [List.length_map, List.take_length]; rfl
      refine Arg.nil ?_
      refine Cal.indexL (xss := threes) (.inl rfl) (.inl rfl) (by decide) t1 t3 ?_
      refine Op2.itemI (ns := sd) (fun _ _ => rfl) (hv _ _ _ _) (by omega) (by omega) (by omega) ?_
      refine Arg.nil ?_
      refine Cal.append (vs := ((List.range j).map (alongAt sd w)).map .int) (by (first | assumption | (simp only [getB, getB0, List.append_assoc, List.cons_append, List.nil_append]; rfl) | rfl)) (by simp; omega) ?_
      refine Exs.nil ?_
      refine ⟨some (.int (lostAt w j)), ⟨rfl, ?_, rfl⟩, rfl, fun _ => ⟨_, rfl⟩⟩
      refine (setB _ _ 3 _).trans ?_
      simp only [List.set_cons_zero, List.set_cons_succ, map_succ, List.map_append]
      rfl
  · rintro ⟨_, _, _, pin⟩ ⟨c, ⟨rfl, rfl, rfl⟩, rfl, hc⟩
    obtain ⟨x, rfl⟩ := hc (by rw [List.length_reverse, List.length_map]; omega)
    rw [List.length_reverse, List.length_map, hol]
    exact h x

end

section
open PySem PySem.Calls PyProof.Rows PySem.W

noncomputable abbrev frRest (Γ : Gam) : List Stmt := (forBody (stmtAt (stmtsOf (fdOf Γ 125)) 1)).drop 3
noncomputable def lamT : List V := [.int 143, .int 38, .code "_law_fours.<locals>.<lambda>"]
theorem code_hd {Γ : Gam} (G : Grd Γ (K0 Γ)) : ∀ h, Γ.In h → CodeHd h 124 122 := fun h hi => ⟨_, _, _, _, _, _, _, _, _, G.In hi 124 _ rfl, rfl, rfl, rfl, rfl, rfl, rfl, rfl, rfl, by decide⟩
set_option maxHeartbeats 2000000 in
theorem fr_tail {Γ : Gam} {n L} {Q : Fl → St → Prop} (G : Grd Γ (K0 Γ)) {loc : List (Str × V)} {B : List O} {pin c0 c1 c2 kt tab} {w : Int} {sd : List Int} (hw : w ∈ [(0 : Int), 1, 2, 3, 4])
    (hmono : ∀ j l, j ≤ l → l < 4 → alongAt sd w j ≠ alongAt sd w 0 → alongAt sd w l ≠ alongAt sd w 0)
    (hpin : (kt, 122) ∈ pin) (hT : B[kt]? = some (.tab tab)) (htab : tab = [] ∨ tab = lamT)
    (h1 : loc.lookup ("along" : Str) = some (.list ((alongOf sd w).map .int)))
    (h : ∀ x : Int, Q .next { loc := loc, cl := clF B.length, heap := B.set kt (.tab lamT) ++ [c0, c1, .cell (some (.int x))], pin := pin }) :
    Exs Γ (n + 3) (callEnvC (fdOf Γ 125) L 125) { loc := loc, cl := clF B.length, heap := B ++ [c0, c1, .cell c2], pin := pin } (frRest Γ) Q := by
  have hlen : (alongOf sd w).length = 4 := by simp [alongOf]
  have h0 : (alongOf sd w).getD 0 0 = alongAt sd w 0 := rfl
  refine Exs.cons ?_
  refine Ex.assign (by rfl) ?_
  refine Ev.sub ?_
  refine Ev.loc (by (repeat (first | assumption | with_reducible exact lk0 | with_reducible refine lkb (by kernel_rfl) ?_ | simp only [List.reverse_cons, List.reverse_nil, List.nil_append, List.cons_append]))) rfl (by kernel_rfl) (by kernel_rfl) ?_
  refine Ev.int ?_
  refine Op2.itemI (ns := alongOf sd w) (fun _ _ => rfl) (.inl rfl) (by decide) (by rw [hlen]; decide) (by rw [hlen]; decide) ?_
  rw [show ((0 : Int)).toNat = 0 from rfl, h0]
  refine Sto.cel2 rfl (by (first | assumption | (simp only [getB, getB0, List.append_assoc, List.cons_append, List.nil_append]; rfl) | rfl)) rfl (by kernel_rfl) (by (first | (simp only [setB, setB0, List.append_assoc, List.cons_append, List.nil_append, List.set_cons_zero, List.set_cons_succ]; rfl) | rfl)) ?_
  refine Exs.cons ?_
  refine Ex.iff ?_
  refine Tst.cmp (by kernel_rfl) ?_
  refine Ev.callK ?_
  refine Ev.glo (G.gv rfl) (fun _ _ _ => .val _) rfl rfl (by kernel_rfl) (by kernel_rfl) ?_
  refine ⟨_, rfl, (KP.fn (G.K _ _ rfl) rfl), ?_⟩
  refine Arg.cons ?_
  refine Ev.loc (by (repeat (first | assumption | with_reducible exact lk0 | with_reducible refine lkb (by kernel_rfl) ?_ | simp only [List.reverse_cons, List.reverse_nil, List.nil_append, List.cons_append]))) rfl (by kernel_rfl) (by kernel_rfl) ?_
  refine Arg.cons ?_
  refine Ev.int ?_
  refine Arg.nil ?_
  have hlt := (List.getElem?_eq_some_iff.mp hT).1
  have hq : [V.int ((143 : Nat) : Int), .int ((38 : Nat) : Int), .code ((callEnvC (fdOf Γ 125) L 125).qual ++ "<lambda>")] = lamT := by kernel_rfl
  refine Ev.lam G (P := 122) (kt := kt) (tab := tab) (x := "first") (k := B.length + 2) (hp := B.set kt (.tab lamT) ++ [c0, c1, .cell (some (.int (alongAt sd w 0)))]) (by rfl) (by rfl) (by rfl) (code_hd G) (by rfl) (by kernel_rfl) (by rfl) hpin ?_ ?_ ?_ ?_
  · show (B ++ _)[kt]? = _
    rw [List.getElem?_append_left hlt]; exact hT
  · rw [← hq] at htab; exact htab
  · show (B ++ _).set kt (.tab [V.int ((143 : Nat) : Int), .int ((38 : Nat) : Int), .code ((callEnvC (fdOf Γ 125) L 125).qual ++ "<lambda>")]) = _
    rw [List.set_append_left _ _ hlt, hq]
  have e2 : B.length = (B.set kt (.tab lamT)).length := by rw [List.length_set]
  generalize B.set kt (.tab lamT) = B2 at h e2 ⊢
  rw [e2] at h ⊢
  clear hlt hq hT e2
  have hal : ∀ (j : Nat) (y : Int), (alongOf sd w)[j]? = some y → j < 4 ∧ y = alongAt sd w j := fun j y e => by
    have hj : j < 4 := by have := (List.getElem?_eq_some_iff.mp e).1; omega
    rw [alongOf, List.getElem?_map, List.getElem?_range hj] at e
    exact ⟨hj, (Option.some.inj e).symm⟩
  have hk0 : ∀ y f : Int, 0 < (if y - f < 0 then -(y - f) else y - f) ↔ y ≠ f := fun y f => by split <;> omega
  refine bisect_key (n := n + 1) G (ns := alongOf sd w) (fun y => if y - alongAt sd w 0 < 0 then -(y - alongAt sd w 0) else y - alongAt sd w 0) (.inl rfl) (by omega) (fun y env loc cl Q' hq => ?_) (fun j l y z hjl e1 e2 => ?_) fun r hr g1 g2 => ?_
  · refine Cal.lam (bv := [("side", .int y)]) G.nolim ?_ (by rfl) (by rfl) ?_
    · intro clos pm c ctv as ρ φ h hv
      cases hv with | cons a1 a2 => cases a2; exact ⟨_, rfl, .cons a1 .nil⟩
    · intro a pm c ctv L f
      refine Ev.call ?_
      refine Ev.bui (G.gb rfl (by first | with_reducible exact boot_range | with_reducible exact boot_len | boot_fact) (by decide)) rfl rfl rfl (by kernel_rfl) (by kernel_rfl) ?_
      refine ⟨_, rfl, KP.builtin, ?_⟩
      refine Arg.cons ?_
      refine Ev.binop ?_
      refine Ev.loc (by (repeat (first | assumption | with_reducible exact lk0 | with_reducible refine lkb (by kernel_rfl) ?_ | simp only [List.reverse_cons, List.reverse_nil, List.nil_append, List.cons_append]))) rfl (by kernel_rfl) (by kernel_rfl) ?_
      refine Ev.fre rfl (by (first | assumption | (simp only [getB, getB0, List.append_assoc, List.cons_append, List.nil_append]; rfl) | rfl)) rfl (by kernel_rfl) (by kernel_rfl) (by kernel_rfl) ?_
      with_reducible refine Op2.subI ?_
      refine Arg.nil ?_
      refine Cal.abs ?_
      exact hq
  · obtain ⟨hj, rfl⟩ := hal j y e1
    obtain ⟨hl, rfl⟩ := hal l z e2
    rw [hk0, hk0]
    exact hmono j l hjl hl
  have hcount : ((alongOf sd w).filter fun y => decide (y = alongAt sd w 0)).length = r := filt_len hr (fun j y hj e => by
      have := g1 j y hj e; rw [hk0] at this; simpa using this) (fun j y hj e => by
      have := g2 j y hj e; rw [hk0] at this; simpa using this)
  refine Ev.call ?_
  refine Ev.bui (G.gb rfl boot_len (by decide)) rfl rfl rfl (by kernel_rfl) (by kernel_rfl) ?_
  refine ⟨_, rfl, KP.builtin, ?_⟩
  refine Arg.cons ?_
  refine Ev.comp ⟨fun _ => rfl, by kernel_rfl, by kernel_rfl, rfl, by kernel_rfl⟩ ?_
  unfold Cmp
  refine Ev.loc (by (repeat (first | assumption | with_reducible exact lk0 | with_reducible refine lkb (by kernel_rfl) ?_ | simp only [List.reverse_cons, List.reverse_nil, List.nil_append, List.cons_append]))) rfl (by kernel_rfl) (by kernel_rfl) ?_
  refine ⟨_, Itr.list (by rw [List.length_map]; omega), ?_⟩
  refine cmp2 [("first", B2.length + 2)] (by rfl) (by (first | (simp only [setB, setB0, List.append_assoc, List.cons_append, List.nil_append, List.set_cons_zero, List.set_cons_succ]; rfl) | rfl)) (by ((simp only [List.length_append, List.length_cons, List.length_nil, Nat.zero_add, Nat.reduceAdd]; try rfl))) fun C => ?_
  refine CL.last (by rfl) (by rfl) (fun m => At [("first", B2.length + 2)] (B2 ++ [c0, c1, .cell (some (.int (alongAt sd w 0))), .list ((((alongOf sd w).take m).filter fun y => decide (y = alongAt sd w 0)).map .int)]) pin) ⟨rfl, rfl, rfl⟩ ?_ ?_
  · rintro m ⟨loc, _, _, pin⟩ u ⟨rfl, rfl, rfl⟩ hu
    obtain ⟨x, hx, rfl⟩ := int_at hu
    refine Asg.name ?_
    refine Sto.loc (by kernel_rfl) (by kernel_rfl) ?_
    refine Ifs.one ?_
    refine Tst.cmp (by kernel_rfl) ?_
    refine Ev.loc (by (repeat (first | assumption | with_reducible exact lk0 | with_reducible refine lkb (by kernel_rfl) ?_ | simp only [List.reverse_cons, List.reverse_nil, List.nil_append, List.cons_append]))) rfl (by kernel_rfl) (by kernel_rfl) ?_
    refine Ev.cel rfl (by (first | assumption | (simp only [getB, getB0, List.append_assoc, List.cons_append, List.nil_append]; rfl) | rfl)) rfl (by kernel_rfl) (by kernel_rfl) ?_
    with_reducible refine Op2.eqI ?_
    refine ⟨_, rfl, ?_⟩
    by_cases hc : x = alongAt sd w 0
    · rw [if_pos (show (x == alongAt sd w 0) = true from beq_iff_eq.mpr hc)]
      refine Ev.loc (by (repeat (first | assumption | with_reducible exact lk0 | with_reducible refine lkb (by kernel_rfl) ?_ | simp only [List.reverse_cons, List.reverse_nil, List.nil_append, List.cons_append]))) rfl (by kernel_rfl) (by kernel_rfl) ?_
      refine ⟨_, by (first | assumption | (simp only [getB, getB0, List.append_assoc, List.cons_append, List.nil_append]; rfl) | rfl), ?_, rfl, ?_, rfl⟩
      · simp only [List.length_map]
        exact Nat.le_trans (List.length_filter_le _ _) (by rw [List.length_take]; omega)
      · simp only [setB, List.set_cons_zero, List.set_cons_succ, filt_take hx]
        rw [if_pos (by simpa using hc)]
    · rw [if_neg (show ¬ (x == alongAt sd w 0) = true from fun z => hc (beq_iff_eq.mp z))]
      refine ⟨rfl, ?_, rfl⟩
      rw [filt_take hx, if_neg (by simpa using hc), List.append_nil]
  · rintro ⟨loc, _, _, _⟩ ⟨rfl, rfl, rfl⟩
    refine ⟨((alongOf sd w).filter fun y => decide (y = alongAt sd w 0)).map V.int, ?_, Fzs.map _ (fun k => .int _) _, ?_⟩
    · simp only [List.append_assoc, List.cons_append, List.nil_append]
      rw [List.length_map, List.take_length]
    refine Arg.nil ?_
    refine Cal.lenL (.inl rfl) (by rw [List.length_map, hcount]; omega) ?_
    have hcl : (((alongOf sd w).filter fun y => decide (y = alongAt sd w 0)).map V.int).length = r := by rw [List.length_map]; exact hcount
    rw [hcl]
    with_reducible refine Op2.neI ?_
    refine ⟨_, rfl, ?_⟩
    rw [if_neg (show ¬ ((r : Int) != (r : Int)) = true from by simp)]
    refine Exs.nil ?_
    refine Exs.nil ?_
    exact h _

end

section
open PySem PySem.Calls PyProof.Rows PySem.W

theorem hp_one {B : List O} {c0 c1 c1' c2 : O} (hf : OFz c1') : ∀ (j : Nat) (o : O), (B ++ [c0, c1', c2])[j]? = some o → (B ++ [c0, c1, c2])[j]? = some o ∨ OFz o := fun j o e => by
  rw [List.getElem?_append] at e ⊢
  by_cases h : j < B.length
  · rw [if_pos h] at e ⊢; exact .inl e
  · rw [if_neg h] at e ⊢
    match j - B.length, e with
    | 0, e => exact .inl e
    | 1, e => have : c1' = o := by simpa using e
              exact .inr (this ▸ hf)
    | 2, e => exact .inl e
    | k + 3, e => simp at e
theorem lk_cases {α : Type} {x y : Str} {v0 v : α} {l : List (Str × α)} (e : ((x, v0) :: l).lookup y = some v) : (y = x ∧ v0 = v) ∨ l.lookup y = some v := by
  rw [lookup_put] at e
  by_cases q : y = x
  · rw [if_pos q] at e; exact .inl ⟨q, Option.some.inj e⟩
  · rw [if_neg q] at e; exact .inr e
noncomputable def FrAt (st : St) (kt : Nat) (v : V) (i : Nat) (st' : St) : Prop :=
  ∃ tab c0 c1 c2, (i = 0 ∧ tab = [] ∨ 0 < i ∧ tab = lamT) ∧ At (clF st.heap.length) (st.heap.set kt (.tab tab) ++ [.cell c0, .cell c1, .cell c2]) st.pin st' ∧
    st'.loc.lookup ("threes" : Str) = some (.list (LL threes)) ∧ st'.loc.lookup ("sides" : Str) = some v

set_option maxHeartbeats 4000000 in
theorem law_fours {Γ : Gam} {n env st} {Q : V → St → Prop} (G : Grd Γ (K0 Γ)) {sd : List Int} {kt ks : Nat} (hsd : sd.length = 10) (hks : st.heap[ks]? = some (.list (sd.map .int)))
    (hmono : ∀ w ∈ [(0 : Int), 1, 2, 3, 4], ∀ j l, j ≤ l → l < 4 → alongAt sd w j ≠ alongAt sd w 0 → alongAt sd w l ≠ alongAt sd w 0)
    (hpin : (kt, 122) ∈ st.pin) (hT : st.heap[kt]? = some (.tab []))
    (h : ∀ c0 c1 c2, Q (.bool true) { st with heap := st.heap.set kt (.tab lamT) ++ [c0, c1, c2] }) : Cal Γ (n + 4) env st (.val (.ref 125)) [.obj ks] Q := by
  have hlt := (List.getElem?_eq_some_iff.mp hT).1
  have hkk : kt ≠ ks := fun q => by subst q; rw [hT] at hks; cases hks
  have hset : st.heap.set kt (.tab []) = st.heap := by
    apply List.ext_getElem?
    intro j
    rw [List.getElem?_set]
    by_cases q : kt = j
    · subst q; rw [if_pos rfl, if_pos hlt, hT]
    · rw [if_neg q]
  refine Cal.fnC2 (fd := fdOf Γ 125) (body := stmtsOf (fdOf Γ 125)) (bv := [("sides", .obj ks)]) (hp := st.heap ++ [.cell none, .cell none, .cell none]) (cl := clF st.heap.length) ["absent", "lost", "first"] (G.def (a := 125) rfl rfl) rfl ?_ (by rfl) (by decide) ?_ rfl rfl ?_
  · intro as ρ φ h hv
    cases hv with | cons h1 h2 => cases h2; exact ⟨_, rfl, .cons h1 .nil⟩
  · kernel_rfl
  · intro L
    refine Exs.cons ?_
    refine Ex.assign (by rfl) ?_
    refine Ev.call0 ?_
    refine Ev.glo (G.gv rfl) (fun _ _ _ => .val _) rfl rfl (by kernel_rfl) (by kernel_rfl) ?_
    refine ⟨_, rfl, (KP.fn (G.K _ _ rfl) rfl), ?_⟩
    refine law_threes G ?_
    refine Sto.loc (by kernel_rfl) (by kernel_rfl) ?_
    refine Exs.cons ?_
    refine Ex.for (fun _ => rfl) ?_
    refine Ev.call ?_
    refine Ev.bui (G.gb rfl boot_range (by decide)) rfl rfl rfl (by kernel_rfl) (by kernel_rfl) ?_
    refine ⟨_, rfl, KP.type, ?_⟩
    refine Arg.cons ?_
    refine Ev.int ?_
    refine Arg.nil ?_
    with_reducible refine Cal.range1 ?_
    refine ⟨_, Itr.rng (by decide) (by decide) (by decide) (by decide), FrAt st kt (.obj ks), ⟨[], none, none, none, .inl ⟨rfl, rfl⟩, ⟨rfl, by rw [hset], rfl⟩, by (repeat (first | assumption | with_reducible exact lk0 | with_reducible refine lkb (by kernel_rfl) ?_ | simp only [List.reverse_cons, List.reverse_nil, List.nil_append, List.cons_append])), by (repeat (first | assumption | with_reducible exact lk0 | with_reducible refine lkb (by kernel_rfl) ?_ | simp only [List.reverse_cons, List.reverse_nil, List.nil_append, List.cons_append]))⟩, ?_, ?_⟩
    · rintro i ⟨loc, _, _, _⟩ u ⟨tab, c0, c1, c2, htab, ⟨rfl, rfl, rfl⟩, h1, h2⟩ hu
      replace h1 : loc.lookup ("threes" : Str) = _ := h1
      replace h2 : loc.lookup ("sides" : Str) = _ := h2
      obtain ⟨hi, rfl⟩ := intsV_at hu
      have hw : ((0 : Int) + (i : Int)) ∈ [(0 : Int), 1, 2, 3, 4] := by
        have : i < 5 := by simpa using hi
        simp only [List.mem_cons, List.not_mem_nil, or_false]; omega
      have hB1 : (st.heap.set kt (.tab tab)).set kt (.tab lamT) = st.heap.set kt (.tab lamT) := by rw [List.set_set]
      have hB2 : (st.heap.set kt (.tab tab))[kt]? = some (.tab tab) := by rw [List.getElem?_set, if_pos rfl, if_pos hlt]
      have hB3 : (st.heap.set kt (.tab tab))[ks]? = some (.list (sd.map .int)) := by rw [List.getElem?_set, if_neg hkk]; exact hks
      have hB4 : st.heap.length = (st.heap.set kt (.tab tab)).length := by rw [List.length_set]
      have hc : clF st.heap.length = clF (st.heap.set kt (.tab tab)).length := by rw [← hB4]
      rw [hc]
      have hfin : ∀ loc' : List (Str × V), ∀ d0 d1 d2, loc'.lookup ("threes" : Str) = some (.list (LL threes)) → loc'.lookup ("sides" : Str) = some (.obj ks) → FrAt st kt (.obj ks) (i + 1) { loc := loc', cl := clF (st.heap.set kt (.tab tab)).length, heap := (st.heap.set kt (.tab tab)).set kt (.tab lamT) ++ [.cell d0, .cell d1, .cell d2], pin := st.pin } :=
        fun loc' d0 d1 d2 e1 e2 => ⟨lamT, d0, d1, d2, .inr ⟨by omega, rfl⟩, ⟨hc.symm, by rw [hB1], rfl⟩, e1, e2⟩
      clear hc hB1 hB4
      generalize st.heap.set kt (.tab tab) = B at hB2 hB3 hfin ⊢
      have hv : ∀ loc cl l pin, St.lst ⟨loc, cl, B ++ l, pin⟩ (.obj ks) (sd.map .int) := fun loc cl l pin => .inr ⟨ks, rfl, by show (B ++ l)[ks]? = _; rw [List.getElem?_append_left (List.getElem?_eq_some_iff.mp hB3).1]; exact hB3⟩
      refine Asg.name ?_
      refine Sto.cel2 rfl (by (first | assumption | (simp only [getB, getB0, List.append_assoc, List.cons_append, List.nil_append]; rfl) | rfl)) rfl (by kernel_rfl) (by (first | (simp only [setB, setB0, List.append_assoc, List.cons_append, List.nil_append, List.set_cons_zero, List.set_cons_succ]; rfl) | rfl)) ?_
      refine Exs.cons ?_
      refine fr_four G ?_
      refine Exs.frz2 "along" ?_
      refine Ex.assign (by rfl) ?_
      refine Ev.listM2 ?_
      refine Arg.nil ?_
      refine ⟨by simp, _, _, by ((simp only [List.length_append, List.length_cons, List.length_nil, Nat.zero_add, Nat.reduceAdd]; try rfl)), by (first | (simp only [setB, setB0, List.append_assoc, List.cons_append, List.nil_append, List.set_cons_zero, List.set_cons_succ]; rfl) | rfl), ?_⟩
      refine Sto.loc (by kernel_rfl) (by kernel_rfl) ?_
      refine ⟨rfl, ?_⟩
      refine fr_lost G hw hsd hv (by (repeat (first | assumption | with_reducible exact lk0 | with_reducible refine lkb (by kernel_rfl) ?_ | simp only [List.reverse_cons, List.reverse_nil, List.nil_append, List.cons_append]))) (by (repeat (first | assumption | with_reducible exact lk0 | with_reducible refine lkb (by kernel_rfl) ?_ | simp only [List.reverse_cons, List.reverse_nil, List.nil_append, List.cons_append]))) (by (repeat (first | assumption | with_reducible exact lk0 | with_reducible refine lkb (by kernel_rfl) ?_ | simp only [List.reverse_cons, List.reverse_nil, List.nil_append, List.cons_append]))) (by (repeat (first | assumption | with_reducible exact lk0 | with_reducible refine lkb (by kernel_rfl) ?_ | simp only [List.reverse_cons, List.reverse_nil, List.nil_append, List.cons_append]))) fun x => ?_
      refine ⟨rfl, ?_⟩
      refine ⟨("along", .obj (B.length + 3)) :: ("four", .list ((others (0 + (i : Int))).map .int)) :: loc, B ++ [.cell (some (.int ((0 : Int) + (i : Int)))), .cell (some (.int x)), .cell c2], (alongOf sd (0 + (i : Int))).map .int, [("four", .list ((others (0 + (i : Int))).map .int)), ("threes", .list (LL threes)), ("sides", .obj ks)], ?_, ?_, Fzs.map _ (fun k => .int _) _, ?_, ?_, ?_, ?_⟩
      · rw [List.append_assoc]; rfl
      · simp
      · rw [show (B ++ [O.cell (some (V.int (0 + (i : Int)))), .cell (some (.int x)), .cell c2]).length = B.length + 3 by simp]; (repeat (first | assumption | with_reducible exact lk0 | with_reducible refine lkb (by kernel_rfl) ?_ | simp only [List.reverse_cons, List.reverse_nil, List.nil_append, List.cons_append]))
      · exact hp_one (show Fz _ from .int x)
      · intro y v e
        rcases lk_cases e with ⟨rfl, rfl⟩ | e
        · exact ⟨by (repeat (first | assumption | with_reducible exact lk0 | with_reducible refine lkb (by kernel_rfl) ?_ | simp only [List.reverse_cons, List.reverse_nil, List.nil_append, List.cons_append])), .inl (by (repeat (first | assumption | with_reducible exact lk0 | with_reducible refine lkb (by kernel_rfl) ?_ | simp only [List.reverse_cons, List.reverse_nil, List.nil_append, List.cons_append])))⟩
        rcases lk_cases e with ⟨rfl, rfl⟩ | e
        · exact ⟨by (repeat (first | assumption | with_reducible exact lk0 | with_reducible refine lkb (by kernel_rfl) ?_ | simp only [List.reverse_cons, List.reverse_nil, List.nil_append, List.cons_append])), .inl (by (repeat (first | assumption | with_reducible exact lk0 | with_reducible refine lkb (by kernel_rfl) ?_ | simp only [List.reverse_cons, List.reverse_nil, List.nil_append, List.cons_append])))⟩
        rcases lk_cases e with ⟨rfl, rfl⟩ | e
        · exact ⟨by (repeat (first | assumption | with_reducible exact lk0 | with_reducible refine lkb (by kernel_rfl) ?_ | simp only [List.reverse_cons, List.reverse_nil, List.nil_append, List.cons_append])), .inl (by (repeat (first | assumption | with_reducible exact lk0 | with_reducible refine lkb (by kernel_rfl) ?_ | simp only [List.reverse_cons, List.reverse_nil, List.nil_append, List.cons_append])))⟩
        · simp at e
      refine fr_tail G (kt := kt) (tab := tab) hw (hmono _ hw) hpin hB2 (by rcases htab with ⟨_, q⟩ | ⟨_, q⟩ <;> simp [q]) (by (repeat (first | assumption | with_reducible exact lk0 | with_reducible refine lkb (by kernel_rfl) ?_ | simp only [List.reverse_cons, List.reverse_nil, List.nil_append, List.cons_append]))) fun z => ?_
      exact hfin _ _ _ _ (by (repeat (first | assumption | with_reducible exact lk0 | with_reducible refine lkb (by kernel_rfl) ?_ | simp only [List.reverse_cons, List.reverse_nil, List.nil_append, List.cons_append]))) (by (repeat (first | assumption | with_reducible exact lk0 | with_reducible refine lkb (by kernel_rfl) ?_ | simp only [List.reverse_cons, List.reverse_nil, List.nil_append, List.cons_append])))
    · rintro ⟨loc, _, _, _⟩ ⟨tab, c0, c1, c2, htab, ⟨rfl, rfl, rfl⟩, h1, h2⟩
      obtain rfl : tab = lamT := by
        rcases htab with ⟨q, _⟩ | ⟨_, q⟩
        · cases q
        · exact q
      refine Exs.cons ?_
      refine Ex.ret ?_
      refine Ev.bool ?_
      exact h _ _ _

end

section
open PySem PySem.Calls PyProof.Rows PySem.W

noncomputable abbrev mts (Γ : Gam) (i : Nat) : Stmt := stmtAt (forBody (stmtAt (stmtsOf (fdOf Γ 130)) 1)) i
noncomputable abbrev clM (B : Nat) : List (Str × Nat) := [("one", B)]
noncomputable def LkM (loc : List (Str × V)) (w : Int) (kt ks : Nat) : Prop := loc.lookup ("others" : Str) = some (.list ((others w).map .int)) ∧ loc.lookup ("threes" : Str) = some (.list (LL threes)) ∧ loc.lookup ("times" : Str) = some (.obj kt) ∧ loc.lookup ("sides" : Str) = some (.obj ks)

set_option maxHeartbeats 1000000 in
theorem mt_others {Γ : Gam} {n L} {Q : Fl → St → Prop} (G : Grd Γ (K0 Γ)) {loc : List (Str × V)} {B : List O} {pin} {w : Int}
    (h : Q .next { loc := ("others", .list ((others w).map .int)) :: loc, cl := clM B.length, heap := B ++ [.cell (some (.int w))], pin := pin }) :
    Ex Γ (n + 3) (callEnvC (fdOf Γ 130) L 130) { loc := loc, cl := clM B.length, heap := B ++ [.cell (some (.int w))], pin := pin } (mts Γ 0) Q := by
  refine Ex.assignC ⟨fun _ => rfl, by kernel_rfl, by kernel_rfl, rfl, by kernel_rfl⟩ (by rfl) ?_
  unfold Cmp
  refine Ev.call ?_
  refine Ev.bui (G.gb rfl boot_range (by decide)) rfl rfl rfl (by kernel_rfl) (by kernel_rfl) ?_
  refine ⟨_, rfl, KP.type, ?_⟩
  refine Arg.cons ?_
  refine Ev.int ?_
  refine Arg.nil ?_
  with_reducible refine Cal.range1 ?_
  refine ⟨_, Itr.rng (by decide) (by decide) (by decide) (by decide), ?_⟩
  refine cmp2 [("one", B.length)] (by rfl) (by (first | (simp only [setB, setB0, List.append_assoc, List.cons_append, List.nil_append, List.set_cons_zero, List.set_cons_succ]; rfl) | rfl)) (by ((simp only [List.length_append, List.length_cons, List.length_nil, Nat.zero_add, Nat.reduceAdd]; try rfl))) fun C => ?_
  refine CL.last (by rfl) (by rfl) (fun j => At [("one", B.length)] (B ++ [.cell (some (.int w)), .list (((List.range j).filter fun (k : Nat) => decide ((k : Int) ≠ w)).map fun (k : Nat) => V.int k)]) pin) ⟨rfl, rfl, rfl⟩ ?_ ?_
  · rintro j ⟨loc, _, _, pin⟩ u ⟨rfl, rfl, rfl⟩ hu
    obtain ⟨hj, rfl⟩ := intsV_at hu
    refine Asg.name ?_
    refine Sto.loc (by kernel_rfl) (by kernel_rfl) ?_
    refine Ifs.one ?_
    refine Tst.cmp (by kernel_rfl) ?_
    refine Ev.loc (by (repeat (first | assumption | with_reducible exact lk0 | with_reducible refine lkb (by kernel_rfl) ?_ | simp only [List.reverse_cons, List.reverse_nil, List.nil_append, List.cons_append]))) rfl (by kernel_rfl) (by kernel_rfl) ?_
    refine Ev.cel rfl (by (first | assumption | (simp only [getB, getB0, List.append_assoc, List.cons_append, List.nil_append]; rfl) | rfl)) rfl (by kernel_rfl) (by kernel_rfl) ?_
    with_reducible refine Op2.neI ?_
    refine ⟨_, rfl, ?_⟩
    rw [Int.zero_add]
    by_cases hc : (j : Int) = w
    · rw [if_neg (show ¬ ((j : Int) != w) = true from fun z => (bne_iff_ne.mp z) hc)]
      refine ⟨rfl, ?_, rfl⟩
      rw [filt_succ, if_neg (by simpa using hc), List.append_nil]
    · rw [if_pos (show ((j : Int) != w) = true from bne_iff_ne.mpr hc)]
      refine Ev.loc (by (repeat (first | assumption | with_reducible exact lk0 | with_reducible refine lkb (by kernel_rfl) ?_ | simp only [List.reverse_cons, List.reverse_nil, List.nil_append, List.cons_append]))) rfl (by kernel_rfl) (by kernel_rfl) ?_
      refine ⟨_, by (first | assumption | (simp only [getB, getB0, List.append_assoc, List.cons_append, List.nil_append]; rfl) | rfl), ?_, rfl, ?_, rfl⟩
      · simp only [List.length_map]
        exact Nat.le_trans (List.length_filter_le _ _) (by simp; omega)
      · simp only [setB, List.set_cons_zero, List.set_cons_succ, filt_succ]
        rw [if_pos (by simpa using hc)]
  · rintro ⟨loc, _, _, _⟩ ⟨rfl, rfl, rfl⟩
    refine ⟨(others w).map V.int, ?_, Fzs.map _ (fun k => .int _) _, ?_⟩
    · simp only [List.append_assoc, List.cons_append, List.nil_append]
      rw [others_eq]
    refine Sto.loc (by kernel_rfl) (by kernel_rfl) ?_
    exact h

set_option maxHeartbeats 2000000 in
theorem mt_insort {Γ : Gam} {n L} {Q : Fl → St → Prop} (G : Grd Γ (K0 Γ)) {loc : List (Str × V)} {B : List O} {pin} {w : Int} {es : List (Int × Int)} {kt ks : Nat} (hw : w ∈ wires) (ht : B[kt]? = some (.dict es)) (hkey : ∀ o ∈ others w, kdfHas es (keyP w o) = true)
    (h1 : LkM loc w kt ks) (h2 : loc.lookup ("kept" : Str) = some (.obj (B.length + 1)))
    (h : ∀ (loc' : List (Str × V)) (kept : List Int), kept.Perm ((others w).map (tmAt es w)) → kept.Pairwise (· ≤ ·) → LkM loc' w kt ks → loc'.lookup ("kept" : Str) = some (.obj (B.length + 1)) →
      Q .next { loc := loc', cl := clM B.length, heap := B ++ [.cell (some (.int w)), .list (kept.map .int)], pin := pin }) :
    Ex Γ (n + 3) (callEnvC (fdOf Γ 130) L 130) { loc := loc, cl := clM B.length, heap := B ++ [.cell (some (.int w)), .list []], pin := pin } (mts Γ 2) Q := by
  obtain ⟨a1, a2, a3, a4⟩ := h1
  have hol := others_len w hw
  have hdt : ∀ loc cl l pin, St.dct ⟨loc, cl, B ++ l, pin⟩ (.obj kt) es := fun loc cl l pin => .inr ⟨kt, rfl, by show (B ++ l)[kt]? = _; rw [List.getElem?_append_left (List.getElem?_eq_some_iff.mp ht).1]; exact ht⟩
  refine Ex.for (fun _ => rfl) ?_
  refine Ev.loc (by (repeat (first | assumption | with_reducible exact lk0 | with_reducible refine lkb (by kernel_rfl) ?_ | simp only [List.reverse_cons, List.reverse_nil, List.nil_append, List.cons_append]))) rfl (by kernel_rfl) (by kernel_rfl) ?_
  refine ⟨_, Itr.list (by rw [List.length_map]; omega), fun (j : Nat) (st' : St) => ∃ kept : List Int, kept.Perm (((others w).take j).map (tmAt es w)) ∧ kept.Pairwise (· ≤ ·) ∧ At (clM B.length) (B ++ [.cell (some (.int w)), .list (kept.map .int)]) pin st' ∧ LkM st'.loc w kt ks ∧ st'.loc.lookup ("kept" : Str) = some (.obj (B.length + 1)), ⟨[], List.Perm.nil, List.Pairwise.nil, ⟨rfl, rfl, rfl⟩, ⟨a1, a2, a3, a4⟩, h2⟩, ?_, ?_⟩
  · rintro j ⟨loc, _, _, pin⟩ u ⟨kept, hp, hs, ⟨rfl, rfl, rfl⟩, ⟨b1, b2, b3, b4⟩, b5⟩ hu
    replace b1 : loc.lookup ("others" : Str) = _ := b1
    replace b2 : loc.lookup ("threes" : Str) = _ := b2
    replace b3 : loc.lookup ("times" : Str) = _ := b3
    replace b4 : loc.lookup ("sides" : Str) = _ := b4
    replace b5 : loc.lookup ("kept" : Str) = _ := b5
    obtain ⟨o, ho, rfl⟩ := int_at hu
    have hom := mem_of_at ho
    have hkl : kept.length ≤ 4 := by rw [hp.length_eq, List.length_map, List.length_take]; omega
    refine Asg.name ?_
    refine Sto.loc (by kernel_rfl) (by kernel_rfl) ?_
    refine Exs.cons ?_
    refine Ex.expr (by rfl) (by rfl) ?_
    refine Ev.call ?_
    refine Ev.glo (G.gv rfl) (fun _ _ _ => .val _) rfl rfl (by kernel_rfl) (by kernel_rfl) ?_
    refine ⟨_, rfl, (KP.fn (G.K _ _ rfl) rfl), ?_⟩
    refine Arg.cons ?_
    refine Ev.loc (by (repeat (first | assumption | with_reducible exact lk0 | with_reducible refine lkb (by kernel_rfl) ?_ | simp only [List.reverse_cons, List.reverse_nil, List.nil_append, List.cons_append]))) rfl (by kernel_rfl) (by kernel_rfl) ?_
    refine Arg.cons ?_
    refine Ev.sub ?_
    refine Ev.loc (by (repeat (first | assumption | with_reducible exact lk0 | with_reducible refine lkb (by kernel_rfl) ?_ | simp only [List.reverse_cons, List.reverse_nil, List.nil_append, List.cons_append]))) rfl (by kernel_rfl) (by kernel_rfl) ?_
    refine Ev.binop ?_
    refine Ev.binop ?_
    refine Ev.int ?_
    refine Ev.call ?_
    refine Ev.bui (G.gb rfl (by first | with_reducible exact boot_range | with_reducible exact boot_len | boot_fact) (by decide)) rfl rfl rfl (by kernel_rfl) (by kernel_rfl) ?_
    refine ⟨_, rfl, KP.builtin, ?_⟩
    refine Arg.cons ?_
    refine Ev.cel rfl (by (first | assumption | (simp only [getB, getB0, List.append_assoc, List.cons_append, List.nil_append]; rfl) | rfl)) rfl (by kernel_rfl) (by kernel_rfl) ?_
    refine Arg.cons ?_
    refine Ev.loc (by (repeat (first | assumption | with_reducible exact lk0 | with_reducible refine lkb (by kernel_rfl) ?_ | simp only [List.reverse_cons, List.reverse_nil, List.nil_append, List.cons_append]))) rfl (by kernel_rfl) (by kernel_rfl) ?_
    refine Arg.nil ?_
    refine Cal.min2 ?_
    (with_reducible refine Op2.mulI ?_ ?_; exact IntMulOk.of_left (by decide))
    refine Ev.call ?_
    refine Ev.bui (G.gb rfl (by first | with_reducible exact boot_range | with_reducible exact boot_len | boot_fact) (by decide)) rfl rfl rfl (by kernel_rfl) (by kernel_rfl) ?_
    refine ⟨_, rfl, KP.builtin, ?_⟩
    refine Arg.cons ?_
    refine Ev.cel rfl (by (first | assumption | (simp only [getB, getB0, List.append_assoc, List.cons_append, List.nil_append]; rfl) | rfl)) rfl (by kernel_rfl) (by kernel_rfl) ?_
    refine Arg.cons ?_
    refine Ev.loc (by (repeat (first | assumption | with_reducible exact lk0 | with_reducible refine lkb (by kernel_rfl) ?_ | simp only [List.reverse_cons, List.reverse_nil, List.nil_append, List.cons_append]))) rfl (by kernel_rfl) (by kernel_rfl) ?_
    refine Arg.nil ?_
    refine Cal.max2 ?_
    with_reducible refine Op2.addI ?_
    refine Op2.itemD (j := keyP w o) (fun _ _ => rfl) (fun _ _ => rfl) (hdt _ _ _ _) (hkey o hom) ?_
    refine Arg.nil ?_
    refine insort_right G (k := B.length + 1) (ns := kept) (by (first | assumption | (simp only [getB, getB0, List.append_assoc, List.cons_append, List.nil_append]; rfl) | rfl)) (by omega) hs fun r hr g1 g2 => ?_
    refine Exs.nil ?_
    refine ⟨kept.take r ++ tmAt es w o :: kept.drop r, ?_, ins_sorted hs g1 g2, ⟨rfl, ?_, rfl⟩, ⟨by (repeat (first | assumption | with_reducible exact lk0 | with_reducible refine lkb (by kernel_rfl) ?_ | simp only [List.reverse_cons, List.reverse_nil, List.nil_append, List.cons_append])), by (repeat (first | assumption | with_reducible exact lk0 | with_reducible refine lkb (by kernel_rfl) ?_ | simp only [List.reverse_cons, List.reverse_nil, List.nil_append, List.cons_append])), by (repeat (first | assumption | with_reducible exact lk0 | with_reducible refine lkb (by kernel_rfl) ?_ | simp only [List.reverse_cons, List.reverse_nil, List.nil_append, List.cons_append])), by (repeat (first | assumption | with_reducible exact lk0 | with_reducible refine lkb (by kernel_rfl) ?_ | simp only [List.reverse_cons, List.reverse_nil, List.nil_append, List.cons_append]))⟩, by (repeat (first | assumption | with_reducible exact lk0 | with_reducible refine lkb (by kernel_rfl) ?_ | simp only [List.reverse_cons, List.reverse_nil, List.nil_append, List.cons_append]))⟩
    · rw [take_map ho]
      exact ins_perm.trans ((List.Perm.cons _ hp).trans (List.perm_append_singleton _ _).symm)
    · exact setB _ _ 1 _
  · rintro ⟨loc, _, _, pin⟩ ⟨kept, hp, hs, ⟨rfl, rfl, rfl⟩, hl, hk⟩
    rw [List.length_map, List.take_length] at hp
    exact h loc kept hp hs hl hk

end

section
open PySem PySem.Calls PyProof.Rows PySem.W

noncomputable def aheadM (sd : List Int) (w o : Int) : Nat := ((others w).filter (condM sd w o)).length

noncomputable abbrev thirdB (Γ : Gam) : Stmt := stmtAt (forBody (mts Γ 3)) 1
set_option maxHeartbeats 2000000 in
/-- the inner loop: how many third wires come ahead -/
theorem mt_third {Γ : Gam} {n L} {Q : Fl → St → Prop} (G : Grd Γ (K0 Γ)) {loc : List (Str × V)} {B : List O} {pin} {w o : Int} {sd : List Int} {kt ks : Nat} {kv : V} (hw : w ∈ wires) (ho : o ∈ others w) (hsd : sd.length = 10) (hks : B[ks]? = some (.list (sd.map .int)))
    (h1 : LkM loc w kt ks) (h2 : loc.lookup ("kept" : Str) = some kv) (h3 : loc.lookup ("other" : Str) = some (.int o)) (h4 : loc.lookup ("ahead" : Str) = some (.int 0))
    (h : ∀ loc' : List (Str × V), LkM loc' w kt ks → loc'.lookup ("kept" : Str) = some kv → loc'.lookup ("other" : Str) = some (.int o) → loc'.lookup ("ahead" : Str) = some (.int (aheadM sd w o : Nat)) →
      Q .next { loc := loc', cl := clM B.length, heap := B ++ [.cell (some (.int w))], pin := pin }) :
    Ex Γ (n + 3) (callEnvC (fdOf Γ 130) L 130) { loc := loc, cl := clM B.length, heap := B ++ [.cell (some (.int w))], pin := pin } (thirdB Γ) Q := by
  obtain ⟨a1, a2, a3, a4⟩ := h1
  have hol := others_len w hw
  have hsl : ∀ loc cl l pin, St.lst ⟨loc, cl, B ++ l, pin⟩ (.obj ks) (sd.map .int) := fun loc cl l pin => .inr ⟨ks, rfl, by show (B ++ l)[ks]? = _; rw [List.getElem?_append_left (List.getElem?_eq_some_iff.mp hks).1]; exact hks⟩
  refine Ex.for (fun _ => rfl) ?_
  refine Ev.loc (by (repeat (first | assumption | with_reducible exact lk0 | with_reducible refine lkb (by kernel_rfl) ?_ | simp only [List.reverse_cons, List.reverse_nil, List.nil_append, List.cons_append]))) rfl (by kernel_rfl) (by kernel_rfl) ?_
  refine ⟨_, Itr.list (by rw [List.length_map]; omega), fun (j : Nat) (st' : St) => At (clM B.length) (B ++ [.cell (some (.int w))]) pin st' ∧ LkM st'.loc w kt ks ∧ st'.loc.lookup ("kept" : Str) = some kv ∧ st'.loc.lookup ("other" : Str) = some (.int o) ∧ st'.loc.lookup ("ahead" : Str) = some (.int ((((others w).take j).filter (condM sd w o)).length : Nat)), ⟨⟨rfl, rfl, rfl⟩, ⟨a1, a2, a3, a4⟩, h2, h3, h4⟩, ?_, ?_⟩
  · rintro j ⟨loc, _, _, pin⟩ u ⟨⟨rfl, rfl, rfl⟩, ⟨b1, b2, b3, b4⟩, b5, b6, b7⟩ hu
    replace b1 : loc.lookup ("others" : Str) = _ := b1
    replace b2 : loc.lookup ("threes" : Str) = _ := b2
    replace b3 : loc.lookup ("times" : Str) = _ := b3
    replace b4 : loc.lookup ("sides" : Str) = _ := b4
    replace b5 : loc.lookup ("kept" : Str) = _ := b5
    replace b6 : loc.lookup ("other" : Str) = _ := b6
    replace b7 : loc.lookup ("ahead" : Str) = _ := b7
    obtain ⟨t, ht, rfl⟩ := int_at hu
    have htm := mem_of_at ht
    have hstep := filt_take2 (f := condM sd w o) ht
    refine Asg.name ?_
    refine Sto.loc (by kernel_rfl) (by kernel_rfl) ?_
    refine Exs.cons ?_
    refine Ex.iff ?_
    refine Tst.cmp (by kernel_rfl) ?_
    refine Ev.loc (by (repeat (first | assumption | with_reducible exact lk0 | with_reducible refine lkb (by kernel_rfl) ?_ | simp only [List.reverse_cons, List.reverse_nil, List.nil_append, List.cons_append]))) rfl (by kernel_rfl) (by kernel_rfl) ?_
    refine Ev.loc (by (repeat (first | assumption | with_reducible exact lk0 | with_reducible refine lkb (by kernel_rfl) ?_ | simp only [List.reverse_cons, List.reverse_nil, List.nil_append, List.cons_append]))) rfl (by kernel_rfl) (by kernel_rfl) ?_
    with_reducible refine Op2.neI ?_
    refine ⟨_, rfl, ?_⟩
    by_cases hc : t = o
    · rw [if_neg (show ¬ (t != o) = true from fun z => (bne_iff_ne.mp z) hc)]
      refine Exs.nil ?_
      refine Exs.nil ?_
      refine ⟨⟨rfl, rfl, rfl⟩, ⟨by (repeat (first | assumption | with_reducible exact lk0 | with_reducible refine lkb (by kernel_rfl) ?_ | simp only [List.reverse_cons, List.reverse_nil, List.nil_append, List.cons_append])), by (repeat (first | assumption | with_reducible exact lk0 | with_reducible refine lkb (by kernel_rfl) ?_ | simp only [List.reverse_cons, List.reverse_nil, List.nil_append, List.cons_append])), by (repeat (first | assumption | with_reducible exact lk0 | with_reducible refine lkb (by kernel_rfl) ?_ | simp only [List.reverse_cons, List.reverse_nil, List.nil_append, List.cons_append])), by (repeat (first | assumption | with_reducible exact lk0 | with_reducible refine lkb (by kernel_rfl) ?_ | simp only [List.reverse_cons, List.reverse_nil, List.nil_append, List.cons_append]))⟩, by (repeat (first | assumption | with_reducible exact lk0 | with_reducible refine lkb (by kernel_rfl) ?_ | simp only [List.reverse_cons, List.reverse_nil, List.nil_append, List.cons_append])), by (repeat (first | assumption | with_reducible exact lk0 | with_reducible refine lkb (by kernel_rfl) ?_ | simp only [List.reverse_cons, List.reverse_nil, List.nil_append, List.cons_append])), ?_⟩
      rw [hstep, if_neg (show ¬ condM sd w o t = true from by simp [condM, hc])]
      (repeat (first | assumption | with_reducible exact lk0 | with_reducible refine lkb (by kernel_rfl) ?_ | simp only [List.reverse_cons, List.reverse_nil, List.nil_append, List.cons_append]))
    · rw [if_pos (show (t != o) = true from bne_iff_ne.mpr hc)]
      obtain ⟨s1, s2, s3, s4, s5⟩ := srt3_ok w hw o ho t htm hc
      refine Exs.cons ?_
      refine Ex.assign (by rfl) ?_
      refine Ev.sub ?_
      refine Ev.loc (by (repeat (first | assumption | with_reducible exact lk0 | with_reducible refine lkb (by kernel_rfl) ?_ | simp only [List.reverse_cons, List.reverse_nil, List.nil_append, List.cons_append]))) rfl (by kernel_rfl) (by kernel_rfl) ?_
      refine Ev.mth F.plainAttrs_list F.slot_list_index F.type_list_index rfl (by kernel_rfl) (by kernel_rfl) ?_
      refine Ev.loc (by (repeat (first | assumption | with_reducible exact lk0 | with_reducible refine lkb (by kernel_rfl) ?_ | simp only [List.reverse_cons, List.reverse_nil, List.nil_append, List.cons_append]))) rfl (by kernel_rfl) (by kernel_rfl) ?_
      refine ⟨TyIs.list, ?_⟩
      refine Arg.cons ?_
      refine Ev.call ?_
      refine Ev.bui (G.gb rfl (by first | with_reducible exact boot_range | with_reducible exact boot_len | boot_fact) (by decide)) rfl rfl rfl (by kernel_rfl) (by kernel_rfl) ?_
      refine ⟨_, rfl, KP.builtin, ?_⟩
      refine Arg.cons ?_
      refine Ev.listF ?_
      refine Arg.cons ?_
      refine Ev.cel rfl (by (first | assumption | (simp only [getB, getB0, List.append_assoc, List.cons_append, List.nil_append]; rfl) | rfl)) rfl (by kernel_rfl) (by kernel_rfl) ?_
      refine Arg.cons ?_
      refine Ev.loc (by (repeat (first | assumption | with_reducible exact lk0 | with_reducible refine lkb (by kernel_rfl) ?_ | simp only [List.reverse_cons, List.reverse_nil, List.nil_append, List.cons_append]))) rfl (by kernel_rfl) (by kernel_rfl) ?_
      refine Arg.cons ?_
      refine Ev.loc (by (repeat (first | assumption | with_reducible exact lk0 | with_reducible refine lkb (by kernel_rfl) ?_ | simp only [List.reverse_cons, List.reverse_nil, List.nil_append, List.cons_append]))) rfl (by kernel_rfl) (by kernel_rfl) ?_
      refine Arg.nil ?_
      refine ⟨by simp, ?_⟩
      refine Arg.nil ?_
      refine Cal.sorted (ns := [w, o, t]) (.inl rfl) (by simp) fun ns' hp hs => ?_
      obtain rfl := srt3_uniq hw ho htm hc hp hs
      refine Arg.nil ?_
      refine Cal.indexL (xss := threes) (.inl rfl) (.inl rfl) (by decide) s3 s5 ?_
      refine Op2.itemI (ns := sd) (fun _ _ => rfl) (hsl _ _ _ _) (by omega) (by omega) (by omega) ?_
      refine Sto.loc (by kernel_rfl) (by kernel_rfl) ?_
      refine Exs.cons ?_
      refine Ex.iff ?_
      refine Tst.cmp (by kernel_rfl) ?_
      refine Ev.cmp (by kernel_rfl) ?_
      refine Ev.loc (by (repeat (first | assumption | with_reducible exact lk0 | with_reducible refine lkb (by kernel_rfl) ?_ | simp only [List.reverse_cons, List.reverse_nil, List.nil_append, List.cons_append]))) rfl (by kernel_rfl) (by kernel_rfl) ?_
      refine Ev.int ?_
      with_reducible refine Op2.eqI ?_
      refine Ev.cmp (by kernel_rfl) ?_
      refine Ev.loc (by (repeat (first | assumption | with_reducible exact lk0 | with_reducible refine lkb (by kernel_rfl) ?_ | simp only [List.reverse_cons, List.reverse_nil, List.nil_append, List.cons_append]))) rfl (by kernel_rfl) (by kernel_rfl) ?_
      refine Ev.loc (by (repeat (first | assumption | with_reducible exact lk0 | with_reducible refine lkb (by kernel_rfl) ?_ | simp only [List.reverse_cons, List.reverse_nil, List.nil_append, List.cons_append]))) rfl (by kernel_rfl) (by kernel_rfl) ?_
      with_reducible refine Op2.ltI ?_
      refine Op2.eqB ?_
      refine ⟨_, rfl, ?_⟩
      rw [show ((triIdx (srt3 w o t) : Nat) : Int).toNat = triIdx (srt3 w o t) from rfl]
      by_cases hd : ((sd.getD (triIdx (srt3 w o t)) 0 == 4) == decide (t < o)) = true
      · rw [if_pos hd]
        refine Exs.cons ?_
        refine Ex.augI (i := ((((others w).take j).filter (condM sd w o)).length : Nat)) (by (repeat (first | assumption | with_reducible exact lk0 | with_reducible refine lkb (by kernel_rfl) ?_ | simp only [List.reverse_cons, List.reverse_nil, List.nil_append, List.cons_append]))) rfl (by kernel_rfl) ?_
        refine Ev.int ?_
        refine ⟨_, rfl, ?_⟩
        refine Sto.loc (by kernel_rfl) (by kernel_rfl) ?_
        refine Exs.nil ?_
        refine Exs.nil ?_
        refine Exs.nil ?_
        refine ⟨⟨rfl, rfl, rfl⟩, ⟨by (repeat (first | assumption | with_reducible exact lk0 | with_reducible refine lkb (by kernel_rfl) ?_ | simp only [List.reverse_cons, List.reverse_nil, List.nil_append, List.cons_append])), by (repeat (first | assumption | with_reducible exact lk0 | with_reducible refine lkb (by kernel_rfl) ?_ | simp only [List.reverse_cons, List.reverse_nil, List.nil_append, List.cons_append])), by (repeat (first | assumption | with_reducible exact lk0 | with_reducible refine lkb (by kernel_rfl) ?_ | simp only [List.reverse_cons, List.reverse_nil, List.nil_append, List.cons_append])), by (repeat (first | assumption | with_reducible exact lk0 | with_reducible refine lkb (by kernel_rfl) ?_ | simp only [List.reverse_cons, List.reverse_nil, List.nil_append, List.cons_append]))⟩, by (repeat (first | assumption | with_reducible exact lk0 | with_reducible refine lkb (by kernel_rfl) ?_ | simp only [List.reverse_cons, List.reverse_nil, List.nil_append, List.cons_append])), by (repeat (first | assumption | with_reducible exact lk0 | with_reducible refine lkb (by kernel_rfl) ?_ | simp only [List.reverse_cons, List.reverse_nil, List.nil_append, List.cons_append])), ?_⟩
        rw [hstep, if_pos (show condM sd w o t = true from by rw [condM, decide_eq_true hc, hd]; rfl), Int.natCast_add]
        exact lk0
      · rw [if_neg hd]
        refine Exs.nil ?_
        refine Exs.nil ?_
        refine Exs.nil ?_
        refine ⟨⟨rfl, rfl, rfl⟩, ⟨by (repeat (first | assumption | with_reducible exact lk0 | with_reducible refine lkb (by kernel_rfl) ?_ | simp only [List.reverse_cons, List.reverse_nil, List.nil_append, List.cons_append])), by (repeat (first | assumption | with_reducible exact lk0 | with_reducible refine lkb (by kernel_rfl) ?_ | simp only [List.reverse_cons, List.reverse_nil, List.nil_append, List.cons_append])), by (repeat (first | assumption | with_reducible exact lk0 | with_reducible refine lkb (by kernel_rfl) ?_ | simp only [List.reverse_cons, List.reverse_nil, List.nil_append, List.cons_append])), by (repeat (first | assumption | with_reducible exact lk0 | with_reducible refine lkb (by kernel_rfl) ?_ | simp only [List.reverse_cons, List.reverse_nil, List.nil_append, List.cons_append]))⟩, by (repeat (first | assumption | with_reducible exact lk0 | with_reducible refine lkb (by kernel_rfl) ?_ | simp only [List.reverse_cons, List.reverse_nil, List.nil_append, List.cons_append])), by (repeat (first | assumption | with_reducible exact lk0 | with_reducible refine lkb (by kernel_rfl) ?_ | simp only [List.reverse_cons, List.reverse_nil, List.nil_append, List.cons_append])), ?_⟩
        rw [hstep, if_neg (show ¬ condM sd w o t = true from by rw [condM, decide_eq_true hc, Bool.true_and]; exact hd)]
        (repeat (first | assumption | with_reducible exact lk0 | with_reducible refine lkb (by kernel_rfl) ?_ | simp only [List.reverse_cons, List.reverse_nil, List.nil_append, List.cons_append]))
  · rintro ⟨loc, _, _, pin⟩ ⟨⟨rfl, rfl, rfl⟩, hl, h5, h6, h7⟩
    rw [List.length_map, List.take_length] at h7
    exact h loc hl h5 h6 h7

end

section
open PySem PySem.Calls PyProof.Rows PySem.W

set_option maxHeartbeats 2000000 in
theorem mt_check {Γ : Gam} {n L} {Q : Fl → St → Prop} (G : Grd Γ (K0 Γ)) {loc : List (Str × V)} {B : List O} {pin} {w : Int} {sd : List Int} {es : List (Int × Int)} {kt ks : Nat} {kept : List Int} (hw : w ∈ wires) (hsd : sd.length = 10) (hks : B[ks]? = some (.list (sd.map .int)))
    (ht : B[kt]? = some (.dict es)) (hkey : ∀ o ∈ others w, kdfHas es (keyP w o) = true) (hcond : ∀ o ∈ others w, ((others w).filter fun x => decide (tmAt es w x < tmAt es w o)).length = aheadM sd w o)
    (hp : kept.Perm ((others w).map (tmAt es w))) (hs : kept.Pairwise (· ≤ ·))
    (h1 : LkM loc w kt ks) (h2 : loc.lookup ("kept" : Str) = some (.list (kept.map .int)))
    (h : ∀ loc' : List (Str × V), LkM loc' w kt ks → Q .next { loc := loc', cl := clM B.length, heap := B ++ [.cell (some (.int w))], pin := pin }) :
    Ex Γ (n + 3) (callEnvC (fdOf Γ 130) L 130) { loc := loc, cl := clM B.length, heap := B ++ [.cell (some (.int w))], pin := pin } (mts Γ 3) Q := by
  obtain ⟨a1, a2, a3, a4⟩ := h1
  have hol := others_len w hw
  have hkl : kept.length = 4 := by rw [hp.length_eq, List.length_map]; exact hol
  have hdt : ∀ loc cl l pin, St.dct ⟨loc, cl, B ++ l, pin⟩ (.obj kt) es := fun loc cl l pin => .inr ⟨kt, rfl, by show (B ++ l)[kt]? = _; rw [List.getElem?_append_left (List.getElem?_eq_some_iff.mp ht).1]; exact ht⟩
  refine Ex.for (fun _ => rfl) ?_
  refine Ev.loc (by (repeat (first | assumption | with_reducible exact lk0 | with_reducible refine lkb (by kernel_rfl) ?_ | simp only [List.reverse_cons, List.reverse_nil, List.nil_append, List.cons_append]))) rfl (by kernel_rfl) (by kernel_rfl) ?_
  refine ⟨_, Itr.list (by rw [List.length_map]; omega), fun (j : Nat) (st' : St) => At (clM B.length) (B ++ [.cell (some (.int w))]) pin st' ∧ LkM st'.loc w kt ks ∧ st'.loc.lookup ("kept" : Str) = some (.list (kept.map .int)), ⟨⟨rfl, rfl, rfl⟩, ⟨a1, a2, a3, a4⟩, h2⟩, ?_, ?_⟩
  · rintro j ⟨loc, _, _, pin⟩ u ⟨⟨rfl, rfl, rfl⟩, ⟨b1, b2, b3, b4⟩, b5⟩ hu
    replace b1 : loc.lookup ("others" : Str) = _ := b1
    replace b2 : loc.lookup ("threes" : Str) = _ := b2
    replace b3 : loc.lookup ("times" : Str) = _ := b3
    replace b4 : loc.lookup ("sides" : Str) = _ := b4
    replace b5 : loc.lookup ("kept" : Str) = _ := b5
    obtain ⟨o, ho, rfl⟩ := int_at hu
    have hom := mem_of_at ho
    refine Asg.name ?_
    refine Sto.loc (by kernel_rfl) (by kernel_rfl) ?_
    refine Exs.cons ?_
    refine Ex.assign (by rfl) ?_
    refine Ev.int ?_
    refine Sto.loc (by kernel_rfl) (by kernel_rfl) ?_
    refine Exs.cons ?_
    refine mt_third G (o := o) hw hom hsd hks ⟨by (repeat (first | assumption | with_reducible exact lk0 | with_reducible refine lkb (by kernel_rfl) ?_ | simp only [List.reverse_cons, List.reverse_nil, List.nil_append, List.cons_append])), by (repeat (first | assumption | with_reducible exact lk0 | with_reducible refine lkb (by kernel_rfl) ?_ | simp only [List.reverse_cons, List.reverse_nil, List.nil_append, List.cons_append])), by (repeat (first | assumption | with_reducible exact lk0 | with_reducible refine lkb (by kernel_rfl) ?_ | simp only [List.reverse_cons, List.reverse_nil, List.nil_append, List.cons_append])), by (repeat (first | assumption | with_reducible exact lk0 | with_reducible refine lkb (by kernel_rfl) ?_ | simp only [List.reverse_cons, List.reverse_nil, List.nil_append, List.cons_append]))⟩ (kv := .list (kept.map .int)) (by (repeat (first | assumption | with_reducible exact lk0 | with_reducible refine lkb (by kernel_rfl) ?_ | simp only [List.reverse_cons, List.reverse_nil, List.nil_append, List.cons_append]))) (by (repeat (first | assumption | with_reducible exact lk0 | with_reducible refine lkb (by kernel_rfl) ?_ | simp only [List.reverse_cons, List.reverse_nil, List.nil_append, List.cons_append]))) (by (repeat (first | assumption | with_reducible exact lk0 | with_reducible refine lkb (by kernel_rfl) ?_ | simp only [List.reverse_cons, List.reverse_nil, List.nil_append, List.cons_append]))) fun loc' l1 l2 l3 l4 => ?_
    obtain ⟨c1, c2, c3, c4⟩ := l1
    refine Exs.cons ?_
    refine Ex.iff ?_
    refine Tst.cmp (by kernel_rfl) ?_
    refine Ev.call ?_
    refine Ev.glo (G.gv rfl) (fun _ _ _ => .val _) rfl rfl (by kernel_rfl) (by kernel_rfl) ?_
    refine ⟨_, rfl, (KP.fn (G.K _ _ rfl) rfl), ?_⟩
    refine Arg.cons ?_
    refine Ev.loc (by (repeat (first | assumption | with_reducible exact lk0 | with_reducible refine lkb (by kernel_rfl) ?_ | simp only [List.reverse_cons, List.reverse_nil, List.nil_append, List.cons_append]))) rfl (by kernel_rfl) (by kernel_rfl) ?_
    refine Arg.cons ?_
    refine Ev.sub ?_
    refine Ev.loc (by (repeat (first | assumption | with_reducible exact lk0 | with_reducible refine lkb (by kernel_rfl) ?_ | simp only [List.reverse_cons, List.reverse_nil, List.nil_append, List.cons_append]))) rfl (by kernel_rfl) (by kernel_rfl) ?_
    refine Ev.binop ?_
    refine Ev.binop ?_
    refine Ev.int ?_
    refine Ev.call ?_
    refine Ev.bui (G.gb rfl (by first | with_reducible exact boot_range | with_reducible exact boot_len | boot_fact) (by decide)) rfl rfl rfl (by kernel_rfl) (by kernel_rfl) ?_
    refine ⟨_, rfl, KP.builtin, ?_⟩
    refine Arg.cons ?_
    refine Ev.cel rfl (by (first | assumption | (simp only [getB, getB0, List.append_assoc, List.cons_append, List.nil_append]; rfl) | rfl)) rfl (by kernel_rfl) (by kernel_rfl) ?_
    refine Arg.cons ?_
    refine Ev.loc (by (repeat (first | assumption | with_reducible exact lk0 | with_reducible refine lkb (by kernel_rfl) ?_ | simp only [List.reverse_cons, List.reverse_nil, List.nil_append, List.cons_append]))) rfl (by kernel_rfl) (by kernel_rfl) ?_
    refine Arg.nil ?_
    refine Cal.min2 ?_
    (with_reducible refine Op2.mulI ?_ ?_; exact IntMulOk.of_left (by decide))
    refine Ev.call ?_
    refine Ev.bui (G.gb rfl (by first | with_reducible exact boot_range | with_reducible exact boot_len | boot_fact) (by decide)) rfl rfl rfl (by kernel_rfl) (by kernel_rfl) ?_
    refine ⟨_, rfl, KP.builtin, ?_⟩
    refine Arg.cons ?_
    refine Ev.cel rfl (by (first | assumption | (simp only [getB, getB0, List.append_assoc, List.cons_append, List.nil_append]; rfl) | rfl)) rfl (by kernel_rfl) (by kernel_rfl) ?_
    refine Arg.cons ?_
    refine Ev.loc (by (repeat (first | assumption | with_reducible exact lk0 | with_reducible refine lkb (by kernel_rfl) ?_ | simp only [List.reverse_cons, List.reverse_nil, List.nil_append, List.cons_append]))) rfl (by kernel_rfl) (by kernel_rfl) ?_
    refine Arg.nil ?_
    refine Cal.max2 ?_
    with_reducible refine Op2.addI ?_
    refine Op2.itemD (j := keyP w o) (fun _ _ => rfl) (fun _ _ => rfl) (hdt _ _ _ _) (hkey o hom) ?_
    refine Arg.nil ?_
    refine bisect_left (n := n + 1) G (v := .list (kept.map .int)) (ns := kept) (.inl rfl) (by omega) hs (.inl rfl) fun r hr g1 g2 => ?_
    have hra : r = aheadM sd w o := by
      have f1 := filt_len (p := fun y => decide (y < tmAt es w o)) hr (fun j y hj e => decide_eq_true (g1 j y hj e)) (fun j y hj e => decide_eq_false (Int.not_lt.mpr (g2 j y hj e)))
      have f2 := (hp.filter (fun y => decide (y < tmAt es w o))).length_eq
      rw [f1, List.filter_map, List.length_map] at f2
      rw [f2, ← hcond o hom]; rfl
    refine Ev.loc (by (repeat (first | assumption | with_reducible exact lk0 | with_reducible refine lkb (by kernel_rfl) ?_ | simp only [List.reverse_cons, List.reverse_nil, List.nil_append, List.cons_append]))) rfl (by kernel_rfl) (by kernel_rfl) ?_
    with_reducible refine Op2.neI ?_
    refine ⟨_, rfl, ?_⟩
    rw [hra, if_neg (show ¬ ((aheadM sd w o : Int) != (aheadM sd w o : Int)) = true from by simp)]
    refine Exs.nil ?_
    refine Exs.nil ?_
    exact ⟨⟨rfl, rfl, rfl⟩, ⟨c1, c2, c3, c4⟩, l2⟩
  · rintro ⟨loc, _, _, pin⟩ ⟨⟨rfl, rfl, rfl⟩, hl, h5⟩
    exact h loc hl

noncomputable def MtAt (st : St) (kt ks : Nat) (i : Nat) (st' : St) : Prop :=
  ∃ c0, At (clM st.heap.length) (st.heap ++ [.cell c0]) st.pin st' ∧
    st'.loc.lookup ("threes" : Str) = some (.list (LL threes)) ∧ st'.loc.lookup ("times" : Str) = some (.obj kt) ∧ st'.loc.lookup ("sides" : Str) = some (.obj ks)

set_option maxHeartbeats 4000000 in
theorem law_meetings {Γ : Gam} {n env st} {Q : V → St → Prop} (G : Grd Γ (K0 Γ)) {sd : List Int} {es : List (Int × Int)} {kt ks : Nat} (hsd : sd.length = 10) (hks : st.heap[ks]? = some (.list (sd.map .int))) (hkt : st.heap[kt]? = some (.dict es))
    (hkey : ∀ w ∈ wires, ∀ o ∈ others w, kdfHas es (keyP w o) = true) (hcond : ∀ w ∈ wires, ∀ o ∈ others w, ((others w).filter fun x => decide (tmAt es w x < tmAt es w o)).length = aheadM sd w o)
    (h : ∀ c0, Q (.bool true) { st with heap := st.heap ++ [c0] }) : Cal Γ (n + 4) env st (.val (.ref 130)) [.obj kt, .obj ks] Q := by
  refine Cal.fnC2 (fd := fdOf Γ 130) (body := stmtsOf (fdOf Γ 130)) (bv := [("times", .obj kt), ("sides", .obj ks)]) (hp := st.heap ++ [.cell none]) (cl := clM st.heap.length) ["one"] (G.def (a := 130) rfl rfl) rfl ?_ (by rfl) (by decide) ?_ rfl rfl ?_
  · intro as ρ φ h hv
    cases hv with | cons h1 h2 => cases h2 with | cons h2 h3 => cases h3; exact ⟨_, rfl, .cons h1 (.cons h2 .nil)⟩
  · kernel_rfl
  · intro L
    refine Exs.cons ?_
    refine Ex.assign (by rfl) ?_
    refine Ev.call0 ?_
    refine Ev.glo (G.gv rfl) (fun _ _ _ => .val _) rfl rfl (by kernel_rfl) (by kernel_rfl) ?_
    refine ⟨_, rfl, (KP.fn (G.K _ _ rfl) rfl), ?_⟩
    refine law_threes G ?_
    refine Sto.loc (by kernel_rfl) (by kernel_rfl) ?_
    refine Exs.cons ?_
    refine Ex.for (fun _ => rfl) ?_
    refine Ev.call ?_
    refine Ev.bui (G.gb rfl boot_range (by decide)) rfl rfl rfl (by kernel_rfl) (by kernel_rfl) ?_
    refine ⟨_, rfl, KP.type, ?_⟩
    refine Arg.cons ?_
    refine Ev.int ?_
    refine Arg.nil ?_
    with_reducible refine Cal.range1 ?_
    refine ⟨_, Itr.rng (by decide) (by decide) (by decide) (by decide), MtAt st kt ks, ⟨none, ⟨rfl, rfl, rfl⟩, by (repeat (first | assumption | with_reducible exact lk0 | with_reducible refine lkb (by kernel_rfl) ?_ | simp only [List.reverse_cons, List.reverse_nil, List.nil_append, List.cons_append])), by (repeat (first | assumption | with_reducible exact lk0 | with_reducible refine lkb (by kernel_rfl) ?_ | simp only [List.reverse_cons, List.reverse_nil, List.nil_append, List.cons_append])), by (repeat (first | assumption | with_reducible exact lk0 | with_reducible refine lkb (by kernel_rfl) ?_ | simp only [List.reverse_cons, List.reverse_nil, List.nil_append, List.cons_append]))⟩, ?_, ?_⟩
    · rintro i ⟨loc, _, _, _⟩ u ⟨c0, ⟨rfl, rfl, rfl⟩, h1, h2, h3⟩ hu
      replace h1 : loc.lookup ("threes" : Str) = _ := h1
      replace h2 : loc.lookup ("times" : Str) = _ := h2
      replace h3 : loc.lookup ("sides" : Str) = _ := h3
      obtain ⟨hi, rfl⟩ := intsV_at hu
      have hw : ((0 : Int) + (i : Int)) ∈ wires := by
        have : i < 5 := by simpa using hi
        simp only [wires, List.mem_cons, List.not_mem_nil, or_false]; omega
      refine Asg.name ?_
      refine Sto.cel2 rfl (by (first | assumption | (simp only [getB, getB0, List.append_assoc, List.cons_append, List.nil_append]; rfl) | rfl)) rfl (by kernel_rfl) (by (first | (simp only [setB, setB0, List.append_assoc, List.cons_append, List.nil_append, List.set_cons_zero, List.set_cons_succ]; rfl) | rfl)) ?_
      refine Exs.cons ?_
      refine mt_others G ?_
      refine Exs.frz2 "kept" ?_
      refine Ex.assign (by rfl) ?_
      refine Ev.listM2 ?_
      refine Arg.nil ?_
      refine ⟨by simp, _, _, by ((simp only [List.length_append, List.length_cons, List.length_nil, Nat.zero_add, Nat.reduceAdd]; try rfl)), by (first | (simp only [setB, setB0, List.append_assoc, List.cons_append, List.nil_append, List.set_cons_zero, List.set_cons_succ]; rfl) | rfl), ?_⟩
      refine Sto.loc (by kernel_rfl) (by kernel_rfl) ?_
      refine ⟨rfl, ?_⟩
      refine mt_insort G (es := es) (kt := kt) (ks := ks) hw hkt (hkey _ hw) ⟨by (repeat (first | assumption | with_reducible exact lk0 | with_reducible refine lkb (by kernel_rfl) ?_ | simp only [List.reverse_cons, List.reverse_nil, List.nil_append, List.cons_append])), by (repeat (first | assumption | with_reducible exact lk0 | with_reducible refine lkb (by kernel_rfl) ?_ | simp only [List.reverse_cons, List.reverse_nil, List.nil_append, List.cons_append])), by (repeat (first | assumption | with_reducible exact lk0 | with_reducible refine lkb (by kernel_rfl) ?_ | simp only [List.reverse_cons, List.reverse_nil, List.nil_append, List.cons_append])), by (repeat (first | assumption | with_reducible exact lk0 | with_reducible refine lkb (by kernel_rfl) ?_ | simp only [List.reverse_cons, List.reverse_nil, List.nil_append, List.cons_append]))⟩ (by (repeat (first | assumption | with_reducible exact lk0 | with_reducible refine lkb (by kernel_rfl) ?_ | simp only [List.reverse_cons, List.reverse_nil, List.nil_append, List.cons_append]))) fun loc' kept hp hs l1 l2 => ?_
      obtain ⟨b1, b2, b3, b4⟩ := l1
      refine ⟨rfl, ?_⟩
      refine ⟨loc', st.heap ++ [.cell (some (.int ((0 : Int) + (i : Int))))], kept.map .int, [("others", .list ((others (0 + (i : Int))).map .int)), ("threes", .list (LL threes)), ("times", .obj kt), ("sides", .obj ks)], ?_, ?_, Fzs.map _ (fun k => .int _) _, ?_, ?_, ?_, ?_⟩
      · rw [List.append_assoc]; rfl
      · simp
      · rw [show (st.heap ++ [O.cell (some (V.int (0 + (i : Int))))]).length = st.heap.length + 1 by simp]; exact l2
      · exact fun j o e => .inl e
      · intro y v e
        rcases lk_cases e with ⟨rfl, rfl⟩ | e
        · exact ⟨b1, .inl (by (repeat (first | assumption | with_reducible exact lk0 | with_reducible refine lkb (by kernel_rfl) ?_ | simp only [List.reverse_cons, List.reverse_nil, List.nil_append, List.cons_append])))⟩
        rcases lk_cases e with ⟨rfl, rfl⟩ | e
        · exact ⟨b2, .inl (by (repeat (first | assumption | with_reducible exact lk0 | with_reducible refine lkb (by kernel_rfl) ?_ | simp only [List.reverse_cons, List.reverse_nil, List.nil_append, List.cons_append])))⟩
        rcases lk_cases e with ⟨rfl, rfl⟩ | e
        · exact ⟨b3, .inl (by (repeat (first | assumption | with_reducible exact lk0 | with_reducible refine lkb (by kernel_rfl) ?_ | simp only [List.reverse_cons, List.reverse_nil, List.nil_append, List.cons_append])))⟩
        rcases lk_cases e with ⟨rfl, rfl⟩ | e
        · exact ⟨b4, .inl (by (repeat (first | assumption | with_reducible exact lk0 | with_reducible refine lkb (by kernel_rfl) ?_ | simp only [List.reverse_cons, List.reverse_nil, List.nil_append, List.cons_append])))⟩
        · simp at e
      refine Exs.cons ?_
      refine mt_check G (es := es) (kt := kt) (ks := ks) (sd := sd) (kept := kept) hw hsd hks hkt (hkey _ hw) (hcond _ hw) hp hs ⟨by (repeat (first | assumption | with_reducible exact lk0 | with_reducible refine lkb (by kernel_rfl) ?_ | simp only [List.reverse_cons, List.reverse_nil, List.nil_append, List.cons_append])), by (repeat (first | assumption | with_reducible exact lk0 | with_reducible refine lkb (by kernel_rfl) ?_ | simp only [List.reverse_cons, List.reverse_nil, List.nil_append, List.cons_append])), by (repeat (first | assumption | with_reducible exact lk0 | with_reducible refine lkb (by kernel_rfl) ?_ | simp only [List.reverse_cons, List.reverse_nil, List.nil_append, List.cons_append])), by (repeat (first | assumption | with_reducible exact lk0 | with_reducible refine lkb (by kernel_rfl) ?_ | simp only [List.reverse_cons, List.reverse_nil, List.nil_append, List.cons_append]))⟩ (by (repeat (first | assumption | with_reducible exact lk0 | with_reducible refine lkb (by kernel_rfl) ?_ | simp only [List.reverse_cons, List.reverse_nil, List.nil_append, List.cons_append]))) fun loc2 l3 => ?_
      refine Exs.nil ?_
      exact ⟨_, ⟨rfl, rfl, rfl⟩, l3.2.1, l3.2.2.1, l3.2.2.2⟩
    · rintro ⟨loc, _, _, _⟩ ⟨c0, ⟨rfl, rfl, rfl⟩, h1, h2, h3⟩
      refine Exs.cons ?_
      refine Ex.ret ?_
      refine Ev.bool ?_
      exact h _

end

section
open PySem PySem.W

theorem put_new {es : List (Int × Int)} {k v : Int} (h : kdfHas es k = false) : kdfPut es k v = es ++ [(k, v)] := by
  unfold kdfPut
  rw [if_neg (show ¬ (es.any fun p => decide (p.1 = k)) = true from by rw [show (es.any fun p => decide (p.1 = k)) = false from h]; simp)]
theorem has_app {es : List (Int × Int)} {k v x : Int} : kdfHas (es ++ [(k, v)]) x = (kdfHas es x || decide (k = x)) := by
  simp [kdfHas, List.any_append]
theorem look_app {es : List (Int × Int)} {k v x : Int} : kdfLook (es ++ [(k, v)]) x 0 = if kdfHas es x = true then kdfLook es x 0 else if k = x then v else 0 := by
  unfold kdfLook kdfHas
  rw [List.find?_append]
  cases e : es.find? fun p => decide (p.1 = x) with
  | none =>
    have hn : (es.any fun p => decide (p.1 = x)) = false := by
      rw [List.any_eq_false]; intro p hp; exact List.find?_eq_none.mp e p hp
    rw [hn]
    by_cases q : k = x <;> simp [q]
  | some p =>
    have hn : (es.any fun p => decide (p.1 = x)) = true := by
      rw [List.any_eq_true]; exact ⟨p, List.mem_of_find?_eq_some e, by simpa using List.find?_some e⟩
    rw [hn]; simp
/-- two wires have crossed -/
noncomputable def crs (row : List Int) (x y : Int) : Bool := decide (ix row y < ix row x)
noncomputable def kP (k : Nat) : Int := 10 * tw k 0 + tw k 1
noncomputable def kR (k : Nat) : Int := 10 * tw k 0 + tw k 2
noncomputable def kQ (k : Nat) : Int := 10 * tw k 1 + tw k 2
theorem edges6 : ∀ row ∈ perms, ∀ a ∈ spotsN row, ∀ k ∈ List.range 10,
    (crs (swp row a) (tw k 0) (tw k 1) = (crs row (tw k 0) (tw k 1) || decide (keyOf row a = kP k))) ∧ (crs (swp row a) (tw k 0) (tw k 2) = (crs row (tw k 0) (tw k 2) || decide (keyOf row a = kR k))) ∧
    (crs (swp row a) (tw k 1) (tw k 2) = (crs row (tw k 1) (tw k 2) || decide (keyOf row a = kQ k))) ∧
    (keyOf row a = kP k → crs row (tw k 0) (tw k 1) = false ∧ isHeld row a k = true) ∧ (keyOf row a = kR k → crs row (tw k 0) (tw k 2) = false ∧ isHeld row a k = true) ∧ (keyOf row a = kQ k → crs row (tw k 1) (tw k 2) = false ∧ isHeld row a k = true) ∧
    (keyOf row a ≠ kP k → keyOf row a ≠ kR k → keyOf row a ≠ kQ k → isHeld row a k = false) := by decide +kernel
theorem edges7 : ∀ row ∈ perms, ∀ k ∈ List.range 10, (crs row (tw k 0) (tw k 1) = true → crs row (tw k 1) (tw k 2) = true → crs row (tw k 0) (tw k 2) = true) ∧ (crs row (tw k 0) (tw k 2) = true → crs row (tw k 0) (tw k 1) = true ∨ crs row (tw k 1) (tw k 2) = true) ∧
    gone row k = (if crs row (tw k 0) (tw k 1) = true then 1 else 0) + (if crs row (tw k 1) (tw k 2) = true then 1 else 0) + (if crs row (tw k 0) (tw k 2) = true then 1 else 0) ∧
    way row k = if crs row (tw k 0) (tw k 1) = true then 4 else 2 := by decide +kernel
theorem keysN : ∀ k ∈ List.range 10, kP k ≠ kR k ∧ kP k ≠ kQ k ∧ kR k ≠ kQ k := by decide +kernel
/-- the pairs of wires are the pairs of the threes -/
theorem keyFrom : ∀ row ∈ perms, ∀ a ∈ spotsN row, ∃ k ∈ List.range 10, keyOf row a = kP k ∨ keyOf row a = kR k ∨ keyOf row a = kQ k := by decide +kernel
/-- what holds of a three's times and its side -/
structure TI (row : List Int) (es : List (Int × Int)) (i : Nat) (k : Nat) (s : Int) : Prop where
  hp : kdfHas es (kP k) = crs row (tw k 0) (tw k 1)
  hr : kdfHas es (kR k) = crs row (tw k 0) (tw k 2)
  hq : kdfHas es (kQ k) = crs row (tw k 1) (tw k 2)
  lp : crs row (tw k 0) (tw k 1) = true → kdfLook es (kP k) 0 < i
  lr : crs row (tw k 0) (tw k 2) = true → kdfLook es (kR k) 0 < i
  lq : crs row (tw k 1) (tw k 2) = true → kdfLook es (kQ k) 0 < i
  st : (crs row (tw k 0) (tw k 1) = false ∧ crs row (tw k 0) (tw k 2) = false ∧ crs row (tw k 1) (tw k 2) = false) ∨
    (s = 4 ∧ crs row (tw k 0) (tw k 1) = true ∧ (crs row (tw k 0) (tw k 2) = true → kdfLook es (kP k) 0 < kdfLook es (kR k) 0) ∧ (crs row (tw k 1) (tw k 2) = true → crs row (tw k 0) (tw k 2) = true ∧ kdfLook es (kR k) 0 < kdfLook es (kQ k) 0)) ∨
    (s = 2 ∧ crs row (tw k 1) (tw k 2) = true ∧ (crs row (tw k 0) (tw k 2) = true → kdfLook es (kQ k) 0 < kdfLook es (kR k) 0) ∧ (crs row (tw k 0) (tw k 1) = true → crs row (tw k 0) (tw k 2) = true ∧ kdfLook es (kR k) 0 < kdfLook es (kP k) 0))

end

section
open PySem PySem.W

noncomputable def TiG (a b c : Bool) (s p r q : Int) : Prop := (a = false ∧ b = false ∧ c = false) ∨ (s = 4 ∧ a = true ∧ (b = true → p < r) ∧ (c = true → b = true ∧ r < q)) ∨ (s = 2 ∧ c = true ∧ (b = true → q < r) ∧ (a = true → b = true ∧ r < p))
theorem TiG.up {b c s p r q} (hs : s = 4) (h1 : b = true → p < r) (h2 : c = true → b = true ∧ r < q) : TiG true b c s p r q := .inr (.inl ⟨hs, rfl, h1, h2⟩)
theorem TiG.dn {a b s p r q} (hs : s = 2) (h1 : b = true → q < r) (h2 : a = true → b = true ∧ r < p) : TiG a b true s p r q := .inr (.inr ⟨hs, rfl, h1, h2⟩)
theorem ff {P : Prop} (z : false = true) : P := absurd z Bool.false_ne_true
set_option synthInstance.maxHeartbeats 400000 in
set_option synthInstance.maxSize 10000 in
theorem ti_bool : ∀ cp cr cq p r q : Bool, (cp = true → cq = true → cr = true) → (cr = true → cp = true ∨ cq = true) → ((cp || p) = true → (cq || q) = true → (cr || r) = true) → ((cr || r) = true → (cp || p) = true ∨ (cq || q) = true) →
    (p = true → cp = false ∧ r = false ∧ q = false) → (r = true → cr = false ∧ p = false ∧ q = false) → (q = true → cq = false ∧ p = false ∧ r = false) →
    (p = false ∧ r = false ∧ q = false) ∨ (p = true ∧ r = false ∧ q = false ∧ cp = false ∧ cr = false ∧ cq = false) ∨ (p = true ∧ r = false ∧ q = false ∧ cp = false ∧ cr = true ∧ cq = true) ∨
    (p = false ∧ r = true ∧ q = false ∧ cp = true ∧ cr = false ∧ cq = false) ∨ (p = false ∧ r = true ∧ q = false ∧ cp = false ∧ cr = false ∧ cq = true) ∨
    (p = false ∧ r = false ∧ q = true ∧ cp = false ∧ cr = false ∧ cq = false) ∨ (p = false ∧ r = false ∧ q = true ∧ cp = true ∧ cr = true ∧ cq = false) := by decide +kernel
theorem ti_none {a b c : Bool} {s p r q s' p' r' q' : Int} (hs : s' = s) (ep : a = true → p' = p) (er : b = true → r' = r) (eq : c = true → q' = q) (h : TiG a b c s p r q) : TiG a b c s' p' r' q' := by
  rcases h with h | ⟨h1, rfl, h3, h4⟩ | ⟨h1, rfl, h3, h4⟩
  · exact .inl h
  · exact .up (hs.trans h1) (fun z => by rw [ep rfl, er z]; exact h3 z) (fun z => ⟨(h4 z).1, by rw [er (h4 z).1, eq z]; exact (h4 z).2⟩)
  · exact .dn (hs.trans h1) (fun z => by rw [eq rfl, er z]; exact h3 z) (fun z => ⟨(h4 z).1, by rw [er (h4 z).1, ep z]; exact (h4 z).2⟩)
theorem ti_core {cp cr cq p r q : Bool} {s s' Lp Lr Lq Lp' Lr' Lq' i : Int} (g1 : cp = true → cq = true → cr = true) (g2 : cr = true → cp = true ∨ cq = true)
    (g3 : (cp || p) = true → (cq || q) = true → (cr || r) = true) (g4 : (cr || r) = true → (cp || p) = true ∨ (cq || q) = true)
    (hp : p = true → cp = false ∧ r = false ∧ q = false) (hr : r = true → cr = false ∧ p = false ∧ q = false) (hq : q = true → cq = false ∧ p = false ∧ r = false)
    (eP : Lp' = if cp = true then Lp else if p = true then i else 0) (eR : Lr' = if cr = true then Lr else if r = true then i else 0) (eQ : Lq' = if cq = true then Lq else if q = true then i else 0)
    (lp : cp = true → Lp < i) (lr : cr = true → Lr < i) (lq : cq = true → Lq < i)
    (hs : s' = if (p || r || q) = true ∧ (if (cp || p) = true then 1 else 0) + (if (cq || q) = true then 1 else 0) + (if (cr || r) = true then 1 else 0) = 1 then (if (cp || p) = true then 4 else 2) else s)
    (st : TiG cp cr cq s Lp Lr Lq) : TiG (cp || p) (cr || r) (cq || q) s' Lp' Lr' Lq' := by
  rcases ti_bool _ _ _ _ _ _ g1 g2 g3 g4 hp hr hq with h | h | h | h | h | h | h <;> clear g1 g2 g3 g4 hp hr hq
  · obtain ⟨rfl, rfl, rfl⟩ := h
    clear lp lr lq
    rw [Bool.or_false, Bool.or_false, Bool.or_false]
    exact ti_none hs (fun z => eP.trans (if_pos z)) (fun z => eR.trans (if_pos z)) (fun z => eQ.trans (if_pos z)) st
  · obtain ⟨rfl, rfl, rfl, rfl, rfl, rfl⟩ := h
    exact .up hs ff ff
  · obtain ⟨rfl, rfl, rfl, rfl, rfl, rfl⟩ := h
    subst hs eP eR eQ
    rcases st with ⟨_, h, _⟩ | ⟨_, h, _⟩ | ⟨h1, _, h3, h4⟩
    · exact ff h.symm
    · exact ff h
    · exact .dn h1 (fun _ => h3 rfl) (fun _ => ⟨rfl, lr rfl⟩)
  · obtain ⟨rfl, rfl, rfl, rfl, rfl, rfl⟩ := h
    subst hs eP eR eQ
    rcases st with ⟨h, _⟩ | ⟨h1, _, h3, h4⟩ | ⟨_, h, _⟩
    · exact ff h.symm
    · exact .up h1 (fun _ => lp rfl) ff
    · exact ff h
  · obtain ⟨rfl, rfl, rfl, rfl, rfl, rfl⟩ := h
    subst hs eP eR eQ
    rcases st with ⟨_, _, h⟩ | ⟨_, h, _⟩ | ⟨h1, _, h3, h4⟩
    · exact ff h.symm
    · exact ff h
    · exact .dn h1 (fun _ => lq rfl) ff
  · obtain ⟨rfl, rfl, rfl, rfl, rfl, rfl⟩ := h
    exact .dn hs ff ff
  · obtain ⟨rfl, rfl, rfl, rfl, rfl, rfl⟩ := h
    subst hs eP eR eQ
    rcases st with ⟨_, h, _⟩ | ⟨h1, _, h3, h4⟩ | ⟨_, h, _⟩
    · exact ff h.symm
    · exact .up h1 (fun _ => h3 rfl) (fun _ => ⟨rfl, lr rfl⟩)
    · exact ff h
theorem ti_has {row : List Int} {es : List (Int × Int)} {i a : Nat} {f : Nat → Int} (hr : row ∈ perms) (ha : a ∈ spotsN row) (h : ∀ k, k < 10 → TI row es i k (f k)) : kdfHas es (keyOf row a) = false := by
  obtain ⟨k, hk, q⟩ := keyFrom row hr a ha
  have T := h k (List.mem_range.mp hk)
  obtain ⟨_, _, _, e1, e2, e3, _⟩ := edges6 row hr a ha k hk
  rcases q with q | q | q
  · rw [q, T.hp]; exact (e1 q).1
  · rw [q, T.hr]; exact (e2 q).1
  · rw [q, T.hq]; exact (e3 q).1
theorem ti_step {row : List Int} {es : List (Int × Int)} {i a : Nat} {f : Nat → Int} (hr : row ∈ perms) (ha : a ∈ spotsN row) (h : ∀ k, k < 10 → TI row es i k (f k)) : ∀ k, k < 10 → TI (swp row a) (kdfPut es (keyOf row a) i) (i + 1) k (upS row a f k) := by
  have hnew := ti_has hr ha h
  rw [put_new hnew]
  intro k hk
  have hk' := List.mem_range.mpr hk
  have T := h k hk
  obtain ⟨_, _, _, e4⟩ := edges _ hr
  obtain ⟨_, hr', _⟩ := e4 a ha
  obtain ⟨c1, c2, c3, d1, d2, d3, d4⟩ := edges6 row hr a ha k hk'
  obtain ⟨g1, g2, _, _⟩ := edges7 row hr k hk'
  obtain ⟨g3, g4, g5, g6⟩ := edges7 _ hr' k hk'
  obtain ⟨n1, n2, n3⟩ := keysN k hk'
  obtain ⟨f1, f2⟩ := edges2 row hr a ha k hk'
  rw [c1, c3] at g3
  rw [c2] at g3 g4
  rw [c1, c3] at g4
  rw [c1, c2, c3] at g5
  rw [c1] at g6
  have hL : ∀ x, kdfLook (es ++ [(keyOf row a, (i : Int))]) x 0 = if kdfHas es x = true then kdfLook es x 0 else if decide (keyOf row a = x) = true then (i : Int) else 0 := fun x => by rw [look_app]; simp
  have hU : upS row a f k = if (decide (keyOf row a = kP k) || decide (keyOf row a = kR k) || decide (keyOf row a = kQ k)) = true ∧ (if (crs row (tw k 0) (tw k 1) || decide (keyOf row a = kP k)) = true then 1 else 0) + (if (crs row (tw k 1) (tw k 2) || decide (keyOf row a = kQ k)) = true then 1 else 0) + (if (crs row (tw k 0) (tw k 2) || decide (keyOf row a = kR k)) = true then 1 else 0) = 1 then (if (crs row (tw k 0) (tw k 1) || decide (keyOf row a = kP k)) = true then 4 else 2) else f k := by
    rw [← g5, ← g6]
    have hh : isHeld row a k = (decide (keyOf row a = kP k) || decide (keyOf row a = kR k) || decide (keyOf row a = kQ k)) := by
      by_cases q1 : keyOf row a = kP k
      · rw [(d1 q1).2, decide_eq_true q1]; rfl
      · by_cases q2 : keyOf row a = kR k
        · rw [(d2 q2).2, decide_eq_false q1, decide_eq_true q2]; rfl
        · by_cases q3 : keyOf row a = kQ k
          · rw [(d3 q3).2, decide_eq_false q1, decide_eq_false q2, decide_eq_true q3]; rfl
          · rw [d4 q1 q2 q3, decide_eq_false q1, decide_eq_false q2, decide_eq_false q3]; rfl
    rw [← hh, upS]
    by_cases q : isHeld row a k = true ∧ gone (swp row a) k = 1
    · rw [if_pos q, if_pos q]; exact (f1 q.1).2.2.1 q.2
    · rw [if_neg q, if_neg q]
  refine ⟨?_, ?_, ?_, ?_, ?_, ?_, ?_⟩
  · rw [has_app, T.hp, c1]
  · rw [has_app, T.hr, c2]
  · rw [has_app, T.hq, c3]
  · intro z
    rw [c1] at z
    rw [hL, T.hp]
    split
    · have := T.lp (by assumption); push_cast; omega
    · split <;> push_cast <;> omega
  · intro z
    rw [hL, T.hr]
    split
    · have := T.lr (by assumption); push_cast; omega
    · split <;> push_cast <;> omega
  · intro z
    rw [hL, T.hq]
    split
    · have := T.lq (by assumption); push_cast; omega
    · split <;> push_cast <;> omega
  · rw [c1, c2, c3]
    refine ti_core (i := (i : Int)) g1 g2 g3 g4 (fun z => ?_) (fun z => ?_) (fun z => ?_) ((hL _).trans (by rw [T.hp])) ((hL _).trans (by rw [T.hr])) ((hL _).trans (by rw [T.hq])) T.lp T.lr T.lq hU T.st
    · have q := of_decide_eq_true z
      exact ⟨(d1 q).1, decide_eq_false (fun y => n1 (q.symm.trans y)), decide_eq_false (fun y => n2 (q.symm.trans y))⟩
    · have q := of_decide_eq_true z
      exact ⟨(d2 q).1, decide_eq_false (fun y => n1 (y.symm.trans q)), decide_eq_false (fun y => n3 (q.symm.trans y))⟩
    · have q := of_decide_eq_true z
      exact ⟨(d3 q).1, decide_eq_false (fun y => n2 (y.symm.trans q)), decide_eq_false (fun y => n3 (y.symm.trans q))⟩
theorem ti_all (ns : List Int) : ∀ i, i ≤ 10 → ∀ k, k < 10 → TI (rowAt ns i) (timesAt ns i) i k (sdAt ns i k)
  | 0, _ => fun k hk => by
    have h : ∀ k ∈ List.range 10, crs row0 (tw k 0) (tw k 1) = false ∧ crs row0 (tw k 0) (tw k 2) = false ∧ crs row0 (tw k 1) (tw k 2) = false := by decide +kernel
    obtain ⟨h1, h2, h3⟩ := h k (List.mem_range.mpr hk)
    show TI row0 [] 0 k 3
    exact ⟨h1.symm, h2.symm, h3.symm, (fun z => by rw [h1] at z; cases z), (fun z => by rw [h2] at z; cases z), (fun z => by rw [h3] at z; cases z), .inl ⟨h1, h2, h3⟩⟩
  | i + 1, hi => by
    obtain ⟨h1, h2⟩ := rowAt_ok ns i (by omega)
    obtain ⟨_, e2, _, _⟩ := edges _ h1
    have h3 := (pick_mem (e2 (by omega)) (ns.getD i 0)).1
    exact ti_step h1 h3 (ti_all ns i (by omega))
theorem uq_all (ns : List Int) : ∀ i, i ≤ 10 → ∀ p ∈ timesAt ns i, kdfHas (timesAt ns i) p.1 = true ∧ kdfLook (timesAt ns i) p.1 0 = p.2
  | 0, _ => fun p hp => by cases hp
  | i + 1, hi => by
    obtain ⟨h1, h2⟩ := rowAt_ok ns i (by omega)
    obtain ⟨_, e2, _, _⟩ := edges _ h1
    have h3 := (pick_mem (e2 (by omega)) (ns.getD i 0)).1
    have hnew := ti_has h1 h3 (ti_all ns i (by omega))
    have ih := uq_all ns i (by omega)
    show ∀ p ∈ kdfPut (timesAt ns i) _ _, kdfHas (kdfPut (timesAt ns i) _ _) p.1 = true ∧ kdfLook (kdfPut (timesAt ns i) _ _) p.1 0 = p.2
    rw [put_new hnew]
    intro p hp
    rw [has_app, look_app]
    rcases List.mem_append.mp hp with hp | hp
    · rw [(ih p hp).1, if_pos rfl]; exact ⟨rfl, (ih p hp).2⟩
    · rw [List.mem_singleton.mp hp]
      dsimp only
      rw [hnew, if_neg (by simp), if_pos rfl, decide_eq_true rfl]; exact ⟨rfl, rfl⟩
/-- at the end: a three's times rise (4) or fall (2) -/
theorem ends (ns : List Int) {k : Nat} (hk : k < 10) : kdfHas (timesAt ns 10) (kP k) = true ∧ kdfHas (timesAt ns 10) (kR k) = true ∧ kdfHas (timesAt ns 10) (kQ k) = true ∧
    ((sdAt ns 10 k = 4 ∧ kdfLook (timesAt ns 10) (kP k) 0 < kdfLook (timesAt ns 10) (kR k) 0 ∧ kdfLook (timesAt ns 10) (kR k) 0 < kdfLook (timesAt ns 10) (kQ k) 0) ∨ (sdAt ns 10 k = 2 ∧ kdfLook (timesAt ns 10) (kQ k) 0 < kdfLook (timesAt ns 10) (kR k) 0 ∧ kdfLook (timesAt ns 10) (kR k) 0 < kdfLook (timesAt ns 10) (kP k) 0)) := by
  have T := ti_all ns 10 (Nat.le_refl _) k hk
  rw [(edges _ (rowAt_ok ns 10 (Nat.le_refl _)).1).2.2.1 (rowAt_ok ns 10 (Nat.le_refl _)).2] at T
  have h : ∀ k ∈ List.range 10, crs row9 (tw k 0) (tw k 1) = true ∧ crs row9 (tw k 0) (tw k 2) = true ∧ crs row9 (tw k 1) (tw k 2) = true := by decide +kernel
  obtain ⟨h1, h2, h3⟩ := h k (List.mem_range.mpr hk)
  refine ⟨T.hp.trans h1, T.hr.trans h2, T.hq.trans h3, ?_⟩
  rcases T.st with s | s | s
  · rw [h1] at s; cases s.1
  · exact .inl ⟨s.1, s.2.2.1 h2, (s.2.2.2 h3).2⟩
  · exact .inr ⟨s.1, s.2.2.1 h2, (s.2.2.2 h1).2⟩

end

section
open PySem PySem.W

noncomputable def Ch (s p r q : Int) : Prop := (s = 4 ∧ p < r ∧ r < q) ∨ (s = 2 ∧ q < r ∧ r < p)
theorem fours_core {t12 t13 t14 t23 t24 t34 s0 s1 s2 s3 : Int} (h0 : Ch s0 t12 t13 t23) (h1 : Ch s1 t12 t14 t24) (h2 : Ch s2 t13 t14 t34) (h3 : Ch s3 t23 t24 t34) : (s1 ≠ s0 → s2 ≠ s0) ∧ (s2 ≠ s0 → s3 ≠ s0) := by
  unfold Ch at *
  omega
theorem four_idx : ∀ w ∈ [(0 : Int), 1, 2, 3, 4], kP (triIdx (triLost w 0)) = kP (triIdx (triLost w 1)) ∧ kR (triIdx (triLost w 0)) = kP (triIdx (triLost w 2)) ∧ kQ (triIdx (triLost w 0)) = kP (triIdx (triLost w 3)) ∧
    kR (triIdx (triLost w 1)) = kR (triIdx (triLost w 2)) ∧ kQ (triIdx (triLost w 1)) = kR (triIdx (triLost w 3)) ∧ kQ (triIdx (triLost w 2)) = kQ (triIdx (triLost w 3)) := by decide +kernel
theorem fours_ok (ns : List Int) {sd : List Int} (hsd : ∀ k, k < 10 → sd.getD k 0 = sdAt ns 10 k) : ∀ w ∈ [(0 : Int), 1, 2, 3, 4], ∀ j l, j ≤ l → l < 4 → alongAt sd w j ≠ alongAt sd w 0 → alongAt sd w l ≠ alongAt sd w 0 := by
  intro w hw
  have hc : ∀ j, j < 4 → Ch (alongAt sd w j) (kdfLook (timesAt ns 10) (kP (triIdx (triLost w j))) 0) (kdfLook (timesAt ns 10) (kR (triIdx (triLost w j))) 0) (kdfLook (timesAt ns 10) (kQ (triIdx (triLost w j))) 0) := fun j hj => by
    obtain ⟨_, h2, _⟩ := tri_ok w hw j (List.mem_range.mpr hj)
    obtain ⟨_, _, _, e⟩ := ends ns h2
    unfold Ch alongAt
    rw [hsd _ h2]; exact e
  have h0 := hc 0 (by omega)
  have h1 := hc 1 (by omega)
  have h2 := hc 2 (by omega)
  have h3 := hc 3 (by omega)
  obtain ⟨i1, i2, i3, i4, i5, i6⟩ := four_idx w hw
  rw [i1, i2, i3] at h0
  rw [i4, i5] at h1
  rw [i6] at h2
  obtain ⟨m1, m2⟩ := fours_core h0 h1 h2 h3
  intro j l hjl hl hne
  match j, l, hjl, hl with
  | 0, _, _, _ => exact absurd rfl hne
  | 1, 1, _, _ => exact hne
  | 1, 2, _, _ => exact m1 hne
  | 1, 3, _, _ => exact m2 (m1 hne)
  | 2, 2, _, _ => exact hne
  | 2, 3, _, _ => exact m2 hne
  | 3, 3, _, _ => exact hne
  | j + 4, _, a, b => omega
theorem meet_idx : ∀ w ∈ wires, ∀ o ∈ others w, ∀ x ∈ others w, x ≠ o → triIdx (srt3 w o x) < 10 ∧
    ((x < o ∧ (keyP w x = kP (triIdx (srt3 w o x)) ∧ keyP w o = kR (triIdx (srt3 w o x)) ∨ keyP w x = kP (triIdx (srt3 w o x)) ∧ keyP w o = kQ (triIdx (srt3 w o x)) ∨ keyP w x = kR (triIdx (srt3 w o x)) ∧ keyP w o = kQ (triIdx (srt3 w o x)))) ∨
     (o < x ∧ (keyP w o = kP (triIdx (srt3 w o x)) ∧ keyP w x = kR (triIdx (srt3 w o x)) ∨ keyP w o = kP (triIdx (srt3 w o x)) ∧ keyP w x = kQ (triIdx (srt3 w o x)) ∨ keyP w o = kR (triIdx (srt3 w o x)) ∧ keyP w x = kQ (triIdx (srt3 w o x))))) := by decide +kernel
theorem meets_ok (ns : List Int) {sd : List Int} (hsd : ∀ k, k < 10 → sd.getD k 0 = sdAt ns 10 k) : ∀ w ∈ wires, ∀ o ∈ others w, ((others w).filter fun x => decide (tmAt (timesAt ns 10) w x < tmAt (timesAt ns 10) w o)).length = aheadM sd w o := by
  intro w hw o ho
  unfold aheadM
  refine congrArg List.length (List.filter_congr fun x hx => ?_)
  unfold condM tmAt
  by_cases hxo : x = o
  · subst hxo; simp
  · obtain ⟨hk, hi⟩ := meet_idx w hw o ho x hx hxo
    obtain ⟨_, _, _, e⟩ := ends ns hk
    rw [hsd _ hk, decide_eq_true hxo, Bool.true_and]
    generalize triIdx (srt3 w o x) = k at *
    rw [Bool.eq_iff_iff, decide_eq_true_iff, beq_iff_eq]
    rcases e with ⟨e, e1, e2⟩ | ⟨e, e1, e2⟩ <;> rcases hi with ⟨hlt, hi⟩ | ⟨hlt, hi⟩ <;> rw [e]
    · rw [decide_eq_true hlt]
      rcases hi with ⟨a, b⟩ | ⟨a, b⟩ | ⟨a, b⟩ <;> rw [a, b] <;> simp <;> omega
    · rw [decide_eq_false (by omega : ¬ x < o)]
      rcases hi with ⟨a, b⟩ | ⟨a, b⟩ | ⟨a, b⟩ <;> rw [a, b] <;> simp <;> omega
    · rw [decide_eq_true hlt]
      rcases hi with ⟨a, b⟩ | ⟨a, b⟩ | ⟨a, b⟩ <;> rw [a, b] <;> simp <;> omega
    · rw [decide_eq_false (by omega : ¬ x < o)]
      rcases hi with ⟨a, b⟩ | ⟨a, b⟩ | ⟨a, b⟩ <;> rw [a, b] <;> simp <;> omega
theorem keys_idx : ∀ w ∈ wires, ∀ o ∈ others w, ∃ k ∈ List.range 10, keyP w o = kP k ∨ keyP w o = kR k ∨ keyP w o = kQ k := by decide +kernel
theorem keys_ok (ns : List Int) : ∀ w ∈ wires, ∀ o ∈ others w, kdfHas (timesAt ns 10) (keyP w o) = true := by
  intro w hw o ho
  obtain ⟨k, hk, q⟩ := keys_idx w hw o ho
  obtain ⟨e1, e2, e3, _⟩ := ends ns (List.mem_range.mp hk)
  rcases q with q | q | q
  · rw [q]; exact e1
  · rw [q]; exact e2
  · rw [q]; exact e3
theorem sides_ok (ns : List Int) {k : Nat} (hk : k < 10) : sdAt ns 10 k = if kdfLook (timesAt ns 10) (kP k) 0 < kdfLook (timesAt ns 10) (kQ k) 0 then 4 else 2 := by
  obtain ⟨_, _, _, e⟩ := ends ns hk
  split <;> omega
theorem sides_list (ns : List Int) {sd : List Int} (hl : sd.length = 10) (hsd : ∀ k, k < 10 → sd.getD k 0 = sdAt ns 10 k) : sd = (List.range 10).map fun k => if kdfLook (timesAt ns 10) (kP k) 0 < kdfLook (timesAt ns 10) (kQ k) 0 then 4 else 2 := by
  apply List.ext_getElem
  · simp [hl]
  · intro k h1 h2
    rw [hl] at h1
    have := hsd k h1
    rw [List.getD_eq_getElem?_getD, List.getElem?_eq_getElem (by omega)] at this
    simp only [Option.getD_some] at this
    rw [this, sides_ok ns h1]; simp
theorem dots_end : dotsV row9 = (List.replicate 10 (Str.ofString "....")).map V.str := by
  rw [show Str.ofString "...." = dot 4 by decide +kernel]
  have h : ∀ k ∈ List.range 10, gone row9 k = 3 := by decide +kernel
  unfold dotsV
  rw [List.map_congr_left (g := fun _ => V.str (dot 4)) fun k hk => by rw [h k hk]]
  rfl

end

section
open PySem PySem.Calls PyProof.Rows PySem.W

noncomputable def dfl : List Int := [3, 1, 2, 0, 5, 1, 4, 0, 7, 2]
noncomputable def nums (ws : List Int) : List Int := ws.take 10 ++ dfl.drop (ws.take 10).length
theorem nums_len (ws : List Int) : (nums ws).length = 10 := by
  have : dfl.length = 10 := rfl
  unfold nums; rw [List.length_append, List.length_drop, List.length_take]; omega
noncomputable abbrev lawEnv (Γ : Gam) (L f : Addr) (cd : Value) : Env := envOfC "law" (fdOf Γ 135).scope L f cd
noncomputable def ends3 : List Str := ["\n", "\r", "\r\n"]

theorem fm3 (x : Int) : x.fmod 3 = 0 ∨ x.fmod 3 = 1 ∨ x.fmod 3 = 2 := by
  have h : x.fmod 3 = x % 3 := Int.fmod_eq_emod_of_nonneg _ (by omega)
  omega
set_option maxHeartbeats 1000000 in
theorem law_tail {Γ : Gam} {n L f cd} {Q : Fl → St → Prop} (G : Grd Γ (K0 Γ)) {loc : List (Str × V)} {ns : List Int} {es : List (Int × Int)} {sd : List Int} {c0 c1 c2 c3 c4 c5 c6 : O} (hnl : ns.length = 10) (hes : True → timesAt ns 10 = es)
    (huq : ∀ p ∈ es, kdfHas es p.1 = true ∧ kdfLook es p.1 0 = p.2) (hkP : ∀ k, k < 10 → kdfHas es (kP k) = true) (hkQ : ∀ k, k < 10 → kdfHas es (kQ k) = true)
    (hsl : sd.length = 10) (hsd : True → sd = (List.range 10).map fun k => if kdfLook es (kP k) 0 < kdfLook es (kQ k) 0 then 4 else 2)
    (hmono : ∀ w ∈ [(0 : Int), 1, 2, 3, 4], ∀ j l, j ≤ l → l < 4 → alongAt sd w j ≠ alongAt sd w 0 → alongAt sd w l ≠ alongAt sd w 0)
    (hkey : ∀ w ∈ wires, ∀ o ∈ others w, kdfHas es (keyP w o) = true) (hcond : ∀ w ∈ wires, ∀ o ∈ others w, ((others w).filter fun x => decide (tmAt es w x < tmAt es w o)).length = aheadM sd w o)
    (l1 : loc.lookup ("numbers" : Str) = some (.list (ns.map .int))) (l2 : loc.lookup ("row" : Str) = some (.list (row9.map .int))) (l3 : loc.lookup ("dots" : Str) = some (.list (dotsV row9))) (l4 : loc.lookup ("sides" : Str) = some (.obj 9))
    (h : ∀ st' : St, st'.heap[1]? = some (.tab lamT) → st'.pin = [(1, 122)] → Q (.ret (.bool true)) st') :
    Exs Γ (n + 4) (lawEnv Γ L f cd) { loc := loc, cl := [("times", 0)], heap := [.cell (some (.obj 10)), .tab [], c0, c1, c2, c3, c4, c5, c6, .list (sd.map .int), .dict es], pin := [(1, 122)] } ((stmtsOf (fdOf Γ 135)).drop 2) Q := by
  refine Exs.cons ?_
  refine Ex.iff ?_
  refine Tst.or ?_
  refine Tst.cmp (by kernel_rfl) ?_
  refine Ev.loc (by (repeat (first | assumption | with_reducible exact lk0 | with_reducible refine lkb (by kernel_rfl) ?_ | simp only [List.reverse_cons, List.reverse_nil, List.nil_append, List.cons_append]))) rfl (by kernel_rfl) (by kernel_rfl) ?_
  refine Ev.listF ?_
  refine Arg.cons ?_
  refine Ev.int ?_
  refine Arg.cons ?_
  refine Ev.int ?_
  refine Arg.cons ?_
  refine Ev.int ?_
  refine Arg.cons ?_
  refine Ev.int ?_
  refine Arg.cons ?_
  refine Ev.int ?_
  refine Arg.nil ?_
  refine ⟨by simp, ?_⟩
  refine Op2.neL (ns := row9) (ms := [4, 3, 2, 1, 0]) (.inl rfl) (.inl rfl) ?_
  rw [show (!decide (row9 = [4, 3, 2, 1, 0])) = false from rfl]
  refine ⟨_, rfl, ?_⟩
  rw [if_pos rfl]
  rw [if_neg (by decide)]
  refine Tst.or ?_
  refine Tst.cmp (by kernel_rfl) ?_
  refine Ev.loc (by (repeat (first | assumption | with_reducible exact lk0 | with_reducible refine lkb (by kernel_rfl) ?_ | simp only [List.reverse_cons, List.reverse_nil, List.nil_append, List.cons_append]))) rfl (by kernel_rfl) (by kernel_rfl) ?_
  refine Ev.binop ?_
  refine Ev.listF ?_
  refine Arg.cons ?_
  refine Ev.str ?_
  refine Arg.nil ?_
  refine ⟨by simp, ?_⟩
  refine Ev.int ?_
  refine Op2.mulLF (by decide) (by decide) ?_
  refine Op2.neS (c := false) (xs := List.replicate 10 (Str.ofString "....")) (ys := List.replicate 10 (Str.ofString "....")) (.inl (by rw [dots_end])) (.inl rfl) (by decide +kernel) (by decide +kernel) (by decide +kernel) (by decide +kernel) ?_
  refine ⟨_, rfl, ?_⟩
  rw [if_pos rfl]
  rw [if_neg (by decide)]
  refine Tst.or ?_
  refine Tst.cmp (by kernel_rfl) ?_
  refine Ev.cel rfl (by (first | assumption | (simp only [getB, getB0, List.append_assoc, List.cons_append, List.nil_append]; rfl) | rfl)) rfl (by kernel_rfl) (by kernel_rfl) ?_
  refine Ev.call ?_
  refine Ev.glo (G.gv rfl) (fun _ _ _ => .val _) rfl rfl (by kernel_rfl) (by kernel_rfl) ?_
  refine ⟨_, rfl, (KP.fn (G.K _ _ rfl) rfl), ?_⟩
  refine Arg.cons ?_
  refine Ev.loc (by (repeat (first | assumption | with_reducible exact lk0 | with_reducible refine lkb (by kernel_rfl) ?_ | simp only [List.reverse_cons, List.reverse_nil, List.nil_append, List.cons_append]))) rfl (by kernel_rfl) (by kernel_rfl) ?_
  refine Arg.nil ?_
  refine own_times G (ns := ns) (by omega) (by omega) fun d0 => ?_
  rw [hes trivial]
  refine Op2.neD (es := es) (.inr ⟨_, rfl, ?_⟩) (.inr ⟨_, rfl, ?_⟩) huq ?_
  · rfl
  · rfl
  refine ⟨_, rfl, ?_⟩
  rw [if_pos rfl]
  rw [if_neg (by decide)]
  refine Tst.orNil ?_
  rw [if_neg (by decide)]
  refine Exs.nil ?_
  refine Exs.cons ?_
  refine Ex.iff ?_
  refine Tst.cmp (by kernel_rfl) ?_
  refine Ev.loc (by (repeat (first | assumption | with_reducible exact lk0 | with_reducible refine lkb (by kernel_rfl) ?_ | simp only [List.reverse_cons, List.reverse_nil, List.nil_append, List.cons_append]))) rfl (by kernel_rfl) (by kernel_rfl) ?_
  refine Ev.comp ⟨fun _ => rfl, by kernel_rfl, by kernel_rfl, rfl, by kernel_rfl⟩ ?_
  unfold Cmp
  refine Ev.call0 ?_
  refine Ev.glo (G.gv rfl) (fun _ _ _ => .val _) rfl rfl (by kernel_rfl) (by kernel_rfl) ?_
  refine ⟨_, rfl, (KP.fn (G.K _ _ rfl) rfl), ?_⟩
  refine law_threes G ?_
  refine ⟨_, Itr.list (by decide), ?_⟩
  refine cmp2 (hp := [.cell (some (.obj 10)), .tab [], c0, c1, c2, c3, c4, c5, c6, .list (sd.map .int), .dict (es), d0, .dict (es), .list []]) (k := 13) [("times", 0)] (by rfl) rfl rfl fun C => ?_
  refine CL.last (by rfl) (by rfl) (fun j => At [("times", 0)] [.cell (some (.obj 10)), .tab [], c0, c1, c2, c3, c4, c5, c6, .list (sd.map .int), .dict (es), d0, .dict (es), .list ((List.range j).map fun k => V.int (if kdfLook (es) (kP k) 0 < kdfLook (es) (kQ k) 0 then 4 else 2))] [(1, 122)]) ⟨rfl, rfl, rfl⟩ ?_ ?_
  · rintro j ⟨loc, _, _, pin⟩ u ⟨rfl, rfl, rfl⟩ hu
    have hj : j < 10 := by
      have := (List.getElem?_eq_some_iff.mp hu).1
      have e : (LL threes).length = 10 := rfl
      omega
    rw [LL_get hj, (triW j (List.mem_range.mpr hj)).1] at hu
    have hu' := (Option.some.inj hu).symm
    clear hu
    subst hu'
    refine Asg.tupL [("a", _), ("b", _), ("c", _)] (by rfl) rfl ?_
    show StoN Γ (n + 4) _ ["a", "b", "c"] _ _ _
    unfold StoN
    refine Sto.loc (by kernel_rfl) (by kernel_rfl) ?_
    unfold StoN
    refine Sto.loc (by kernel_rfl) (by kernel_rfl) ?_
    unfold StoN
    refine Sto.loc (by kernel_rfl) (by kernel_rfl) ?_
    unfold StoN
    refine Ifs.nil ?_
    rw [if_pos rfl]
    refine Ev.ifexp ?_
    refine Tst.cmp (by kernel_rfl) ?_
    refine Ev.sub ?_
    refine Ev.cel rfl (by (first | assumption | (simp only [getB, getB0, List.append_assoc, List.cons_append, List.nil_append]; rfl) | rfl)) rfl (by kernel_rfl) (by kernel_rfl) ?_
    refine Ev.binop ?_
    refine Ev.binop ?_
    refine Ev.int ?_
    refine Ev.loc (by (repeat (first | assumption | with_reducible exact lk0 | with_reducible refine lkb (by kernel_rfl) ?_ | simp only [List.reverse_cons, List.reverse_nil, List.nil_append, List.cons_append]))) rfl (by kernel_rfl) (by kernel_rfl) ?_
    (with_reducible refine Op2.mulI ?_ ?_; exact IntMulOk.of_left (by decide))
    refine Ev.loc (by (repeat (first | assumption | with_reducible exact lk0 | with_reducible refine lkb (by kernel_rfl) ?_ | simp only [List.reverse_cons, List.reverse_nil, List.nil_append, List.cons_append]))) rfl (by kernel_rfl) (by kernel_rfl) ?_
    with_reducible refine Op2.addI ?_
    refine Op2.itemD (j := kP j) (fun _ _ => rfl) (fun _ _ => rfl) (.inr ⟨10, rfl, rfl⟩) (hkP j hj) ?_
    refine Ev.sub ?_
    refine Ev.cel rfl (by (first | assumption | (simp only [getB, getB0, List.append_assoc, List.cons_append, List.nil_append]; rfl) | rfl)) rfl (by kernel_rfl) (by kernel_rfl) ?_
    refine Ev.binop ?_
    refine Ev.binop ?_
    refine Ev.int ?_
    refine Ev.loc (by (repeat (first | assumption | with_reducible exact lk0 | with_reducible refine lkb (by kernel_rfl) ?_ | simp only [List.reverse_cons, List.reverse_nil, List.nil_append, List.cons_append]))) rfl (by kernel_rfl) (by kernel_rfl) ?_
    (with_reducible refine Op2.mulI ?_ ?_; exact IntMulOk.of_left (by decide))
    refine Ev.loc (by (repeat (first | assumption | with_reducible exact lk0 | with_reducible refine lkb (by kernel_rfl) ?_ | simp only [List.reverse_cons, List.reverse_nil, List.nil_append, List.cons_append]))) rfl (by kernel_rfl) (by kernel_rfl) ?_
    with_reducible refine Op2.addI ?_
    refine Op2.itemD (j := kQ j) (fun _ _ => rfl) (fun _ _ => rfl) (.inr ⟨10, rfl, rfl⟩) (hkQ j hj) ?_
    refine Op2.ltI ?_
    refine ⟨_, rfl, ?_⟩
    by_cases hc : kdfLook (es) (kP j) 0 < kdfLook (es) (kQ j) 0
    · rw [if_pos (decide_eq_true hc)]
      have hc' : True → kdfLook (es) (kP j) 0 < kdfLook (es) (kQ j) 0 := fun _ => hc
      clear hc
      refine Ev.int ?_
      refine ⟨_, rfl, ?_⟩
      refine ⟨by simp; omega, rfl, ?_, rfl⟩
      rw [map_succ, if_pos (hc' trivial)]
      rfl
    · rw [if_neg (by simpa using hc)]
      have hc' : True → ¬ kdfLook (es) (kP j) 0 < kdfLook (es) (kQ j) 0 := fun _ => hc
      clear hc
      refine Ev.int ?_
      refine ⟨_, rfl, ?_⟩
      refine ⟨by simp; omega, rfl, ?_, rfl⟩
      rw [map_succ, if_neg (hc' trivial)]
      rfl
  · rintro ⟨loc2, _, _, pin⟩ ⟨rfl, rfl, rfl⟩
    refine ⟨sd.map V.int, ?_, Fzs.map _ (fun k => .int _) _, ?_⟩
    · rw [show (LL threes).length = 10 from rfl, show (List.range 10).map (fun k => V.int (if kdfLook es (kP k) 0 < kdfLook es (kQ k) 0 then 4 else 2)) = sd.map V.int from by rw [hsd trivial, List.map_map]; rfl]
      rfl
    refine Op2.neL (ns := sd) (ms := sd) (.inr ⟨9, rfl, rfl⟩) (.inl rfl) ?_
    rw [show (!decide (sd = sd)) = false from by simp]
    refine ⟨_, rfl, ?_⟩
    rw [if_neg (by decide)]
    refine Exs.nil ?_
    refine Exs.cons ?_
    refine Ex.ret ?_
    refine Ev.and2 ?_
    refine Ev.call ?_
    refine Ev.glo (G.gv rfl) (fun _ _ _ => .val _) rfl rfl (by kernel_rfl) (by kernel_rfl) ?_
    refine ⟨_, rfl, (KP.fn (G.K _ _ rfl) rfl), ?_⟩
    refine Arg.cons ?_
    refine Ev.loc (by (repeat (first | assumption | with_reducible exact lk0 | with_reducible refine lkb (by kernel_rfl) ?_ | simp only [List.reverse_cons, List.reverse_nil, List.nil_append, List.cons_append]))) rfl (by kernel_rfl) (by kernel_rfl) ?_
    refine Arg.nil ?_
    refine law_fours G (sd := sd) (kt := 1) (ks := 9) hsl rfl hmono (by simp) rfl fun f0 f1 f2 => ?_
    refine ⟨_, rfl, ?_⟩
    rw [if_pos rfl]
    refine Ev.call ?_
    refine Ev.glo (G.gv rfl) (fun _ _ _ => .val _) rfl rfl (by kernel_rfl) (by kernel_rfl) ?_
    refine ⟨_, rfl, (KP.fn (G.K _ _ rfl) rfl), ?_⟩
    refine Arg.cons ?_
    refine Ev.cel rfl (by (first | assumption | (simp only [getB, getB0, List.append_assoc, List.cons_append, List.nil_append]; rfl) | rfl)) rfl (by kernel_rfl) (by kernel_rfl) ?_
    refine Arg.cons ?_
    refine Ev.loc (by (repeat (first | assumption | with_reducible exact lk0 | with_reducible refine lkb (by kernel_rfl) ?_ | simp only [List.reverse_cons, List.reverse_nil, List.nil_append, List.cons_append]))) rfl (by kernel_rfl) (by kernel_rfl) ?_
    refine Arg.nil ?_
    refine law_meetings G (sd := sd) (es := es) (kt := 10) (ks := 9) hsl rfl rfl hkey hcond fun f3 => ?_
    exact h _ rfl rfl

set_option maxHeartbeats 1000000 in
theorem law_body {Γ : Gam} {n L f cd} {Q : Fl → St → Prop} (G : Grd Γ (K0 Γ)) {a : Addr} {as : List Value} {ws : List Int} (hB : ∀ h, Γ.In h → h.IsList a as.toArray) (hI : IntsAre as ws) (hs : ws.length ≤ 63)
    (h : ∀ st' : St, st'.heap[1]? = some (.tab lamT) → st'.pin = [(1, 122)] → Q (.ret (.bool true)) st') :
    Exs Γ (n + 4) (lawEnv Γ L f cd) { loc := [("script", .val (.ref a))], cl := [("times", 0)], heap := [.cell none, .tab []], pin := [(1, 122)] } (stmtsOf (fdOf Γ 135)) Q := by
  have hnl := nums_len ws
  refine Exs.cons ?_
  refine Ex.assign (by rfl) ?_
  refine Ev.binop ?_
  refine Ev.uptoV hB hI (by omega) ?_
  refine Ev.loc (by (repeat (first | assumption | with_reducible exact lk0 | with_reducible refine lkb (by kernel_rfl) ?_ | simp only [List.reverse_cons, List.reverse_nil, List.nil_append, List.cons_append]))) rfl (by kernel_rfl) (by kernel_rfl) ?_
  refine ⟨rfl, ?_⟩
  refine Ev.int ?_
  refine ⟨_, rfl, ?_⟩
  refine Ev.from ?_
  refine Ev.listF ?_
  refine Arg.cons ?_
  refine Ev.int ?_
  refine Arg.cons ?_
  refine Ev.int ?_
  refine Arg.cons ?_
  refine Ev.int ?_
  refine Arg.cons ?_
  refine Ev.int ?_
  refine Arg.cons ?_
  refine Ev.int ?_
  refine Arg.cons ?_
  refine Ev.int ?_
  refine Arg.cons ?_
  refine Ev.int ?_
  refine Arg.cons ?_
  refine Ev.int ?_
  refine Arg.cons ?_
  refine Ev.int ?_
  refine Arg.cons ?_
  refine Ev.int ?_
  refine Arg.nil ?_
  refine ⟨by simp, ?_⟩
  refine Ev.call ?_
  refine Ev.bui (G.gb rfl boot_len (by decide)) rfl rfl rfl (by kernel_rfl) (by kernel_rfl) ?_
  refine ⟨_, rfl, KP.builtin, ?_⟩
  refine Arg.cons ?_
  refine Ev.uptoV hB hI (by omega) ?_
  refine Ev.loc (by (repeat (first | assumption | with_reducible exact lk0 | with_reducible refine lkb (by kernel_rfl) ?_ | simp only [List.reverse_cons, List.reverse_nil, List.nil_append, List.cons_append]))) rfl (by kernel_rfl) (by kernel_rfl) ?_
  refine ⟨rfl, ?_⟩
  refine Ev.int ?_
  refine ⟨_, rfl, ?_⟩
  refine Arg.nil ?_
  refine Cal.lenL (.inl rfl) (by rw [List.length_map, List.length_take]; omega) ?_
  refine ⟨_, rfl, dfl.map .int, .inl rfl, by decide, ?_⟩
  refine Op2.addL (vs := (ws.take 10).map .int) (.inl rfl) (.inl rfl) (by simp only [List.length_map, List.length_drop, List.length_take]; have : dfl.length = 10 := rfl; omega) ?_
  rw [show (ws.take 10).map V.int ++ (dfl.map V.int).drop ((ws.take 10).map V.int).length = (nums ws).map V.int from by rw [nums, List.map_append, List.map_drop, List.length_map]]
  refine Sto.loc (by kernel_rfl) (by kernel_rfl) ?_
  refine Exs.cons ?_
  refine Ex.assignT [("row", _), ("dots", _), ("times", _), ("sides", _)] (by rfl) (by rfl) (by rfl) ?_
  refine Ev.call ?_
  refine Ev.glo (G.gv rfl) (fun _ _ _ => .val _) rfl rfl (by kernel_rfl) (by kernel_rfl) ?_
  refine ⟨_, rfl, (KP.fn (G.K _ _ rfl) rfl), ?_⟩
  refine Arg.cons ?_
  refine Ev.loc (by (repeat (first | assumption | with_reducible exact lk0 | with_reducible refine lkb (by kernel_rfl) ?_ | simp only [List.reverse_cons, List.reverse_nil, List.nil_append, List.cons_append]))) rfl (by kernel_rfl) (by kernel_rfl) ?_
  refine Arg.cons ?_
  refine Ev.sub ?_
  refine Ev.listF ?_
  refine Arg.cons ?_
  refine Ev.str ?_
  refine Arg.cons ?_
  refine Ev.str ?_
  refine Arg.cons ?_
  refine Ev.str ?_
  refine Arg.nil ?_
  refine ⟨by simp, ?_⟩
  refine Ev.binop ?_
  refine Ev.call ?_
  refine Ev.bui (G.gb rfl (by first | with_reducible exact boot_range | with_reducible exact boot_len | boot_fact) (by decide)) rfl rfl rfl (by kernel_rfl) (by kernel_rfl) ?_
  refine ⟨_, rfl, KP.builtin, ?_⟩
  refine Arg.cons ?_
  refine Ev.loc (by (repeat (first | assumption | with_reducible exact lk0 | with_reducible refine lkb (by kernel_rfl) ?_ | simp only [List.reverse_cons, List.reverse_nil, List.nil_append, List.cons_append]))) rfl (by kernel_rfl) (by kernel_rfl) ?_
  refine Arg.nil ?_
  refine Cal.sum (ns := nums ws) (.inl rfl) ?_
  refine Ev.int ?_
  refine Op2.modI (by decide) ?_
  obtain ⟨e, sep, he1, he2, he3⟩ : ∃ (e : Str) (sep : List Nat), ([V.str (Str.ofString "\n"), .str (Str.ofString "\r"), .str (Str.ofString "\r\n")])[((nums ws).sum.fmod 3).toNat]? = some (.str e) ∧ (sep = [10] ∨ sep = [13] ∨ sep = [13, 10]) ∧ e.cps.toList = sep := by
    rcases fm3 (nums ws).sum with q | q | q <;> rw [q]
    · exact ⟨_, [10], rfl, .inl rfl, by decide +kernel⟩
    · exact ⟨_, [13], rfl, .inr (.inl rfl), by decide +kernel⟩
    · exact ⟨_, [13, 10], rfl, .inr (.inr rfl), by decide +kernel⟩
  have hf0 : 0 ≤ (nums ws).sum.fmod 3 := by rcases fm3 (nums ws).sum with q | q | q <;> rw [q] <;> decide
  have hf3 : (nums ws).sum.fmod 3 < 3 := by rcases fm3 (nums ws).sum with q | q | q <;> rw [q] <;> decide
  refine Op2.itemL (k := (nums ws).sum.fmod 3) (x := .str e) (fun _ _ => rfl) (.inl rfl) hf0 he1 (Int.lt_of_lt_of_le hf3 (by decide)) ?_
  refine Arg.nil ?_
  refine law_run G (ns := nums ws) (sep := sep) (by omega) (by omega) he2 he3 fun c0 c1 c2 c3 c4 c5 c6 sd hsl hsd => ?_
  clear he1 he2 he3 hf0 hf3
  refine ⟨_, rfl, rfl, ?_⟩
  show StoN Γ (n + 4) (lawEnv Γ L f cd) ["row", "dots", "times", "sides"] _ _ _
  unfold StoN
  refine Sto.loc (by kernel_rfl) (by kernel_rfl) ?_
  unfold StoN
  refine Sto.loc (by kernel_rfl) (by kernel_rfl) ?_
  unfold StoN
  refine Sto.cel2 rfl (by (first | assumption | (simp only [getB, getB0, List.append_assoc, List.cons_append, List.nil_append]; rfl) | rfl)) rfl (by kernel_rfl) (by (first | (simp only [setB, setB0, List.append_assoc, List.cons_append, List.nil_append, List.set_cons_zero, List.set_cons_succ]; rfl) | rfl)) ?_
  unfold StoN
  refine Sto.loc (by kernel_rfl) (by kernel_rfl) ?_
  unfold StoN
  refine law_tail G (ns := nums ws) (es := timesAt (nums ws) 10) (sd := sd) (c0 := c0) (c1 := c1) (c2 := c2) (c3 := c3) (c4 := c4) (c5 := c5) (c6 := c6) hnl (fun _ => rfl) (uq_all _ 10 (Nat.le_refl _)) (fun k hk => (ends (nums ws) hk).1) (fun k hk => (ends (nums ws) hk).2.2.1) hsl (fun _ => sides_list (nums ws) hsl hsd) (fours_ok (nums ws) hsd) (keys_ok (nums ws)) (meets_ok (nums ws) hsd) ?_ ?_ ?_ ?_ h
  · (repeat (first | assumption | with_reducible exact lk0 | with_reducible refine lkb (by kernel_rfl) ?_ | simp only [List.reverse_cons, List.reverse_nil, List.nil_append, List.cons_append]))
  · (repeat (first | assumption | with_reducible exact lk0 | with_reducible refine lkb (by kernel_rfl) ?_ | simp only [List.reverse_cons, List.reverse_nil, List.nil_append, List.cons_append]))
  · (repeat (first | assumption | with_reducible exact lk0 | with_reducible refine lkb (by kernel_rfl) ?_ | simp only [List.reverse_cons, List.reverse_nil, List.nil_append, List.cons_append]))
  · exact lk0

end

section
open PySem PySem.Calls PyProof.Rows PySem.W

noncomputable def gam (w : World) (s₁ : Shared) : Gam := { prog := PySem.Challenge.rw_ty0018_01.row.prog, w := w, B := (ghostOf s₁.heap [(124, 122)]).get?, s0 := s₁ }
theorem grd_top {w : World} {s₁ : Shared} {p : Program} {loose : List Str} {mean : ExcName → Option Value} {mg mb : Str → Option Value} (X : (hd.heap_39 w.params).In (ghostOf s₁.heap [(124, 122)])) (T : Top p loose mean mg mb (ghostOf s₁.heap [(124, 122)])) :
    Grd (gam w s₁) (K0 (gam w s₁)) where
  ex := ⟨_, fun b o e => e⟩
  K := fun a o e => X a o e
  names := ⟨mg, mb, fun h hi => T.g.keeps hi, fun h hi => T.b.keeps hi, T.builtins⟩
  nolim := fun h hi => T.nolimit.keeps hi
  sys := ⟨124, _, by decide, X 124 _ rfl⟩
  bm := ⟨mg, fun h hi => T.g.keeps hi, fun P h hP hi => by
    obtain ⟨bm, ob, b1, b2, b3, b4, b5, b6⟩ := T.bmain
    obtain ⟨og, es, ep, eg, hd, r⟩ := T.g
    refine ⟨⟨bm, ob, b1, b2, fun q => ?_, fun q => ?_, hi _ _ b3, b4, b5, b6⟩, fun q => ?_⟩
    · rw [q, eg] at b3; cases b3; rw [hd] at b6; cases b6
    · rw [← q] at hP; rw [show (gam w s₁).B bm = some ob from b3] at hP; cases hP
    · rw [← q] at hP; rw [show (gam w s₁).B mainGlobals = some og from eg] at hP; cases hP⟩

set_option maxHeartbeats 1000000 in
theorem law_top {w : World} {s₁ : Shared} {p : Program} {loose : List Str} {mean : ExcName → Option Value} {mg mb : Str → Option Value} {h₁ : Heap} {tk₁ : Nat} {L fa a : Addr} {cd : Value} {m : Str → Option Value} {wc : Obj} {as : List Value} {ws : List Int} {R : Flow → Shared → Prop} {E : Value → Shared → Prop} {A : Around}
    (X : (hd.heap_39 w.params).In (ghostOf s₁.heap [(124, 122)])) (T : Top p loose mean mg mb (ghostOf s₁.heap [(124, 122)])) (F : Fr (ghostOf s₁.heap [(124, 122)]) L h₁ m) (N : News (ghostOf s₁.heap [(124, 122)]) L h₁ [(L + 1, wc), (122, tabObj #[])])
    (hlt : 122 < L) (hwc : wc.data = .cell Option.none) (hm : m "script" = some (.ref a)) (hlist : (ghostOf s₁.heap [(124, 122)]).IsList a as.toArray) (hI : IntsAre as ws) (hs : ws.length ≤ 63) (hA : AOk 30 A)
    (h : ∀ s', (∀ b o, (ghostOf s₁.heap [(124, 122)]).get? b = some o → s'.heap.get? b = some o) → (∃ h tk, s' = { s₁ with heap := h, toks := tk }) → (∃ ps, s'.heap.get? 122 = some (tabObj ps)) → R (.ret (.bool true)) s') :
    wpAny (model PySem.Challenge.rw_ty0018_01.row.prog w) A (execs (stmtsOf (fdOf (gam w s₁) 135)) (lawEnv (gam w s₁) L fa cd)) R E { s₁ with heap := h₁, toks := tk₁ } := by
  have G := grd_top X T
  have hL0 : (ghostOf s₁.heap [(124, 122)]).get? L = Option.none := Heap.get?_none_of_le F.above
  obtain ⟨n1, n2, n3⟩ := N (L + 1, wc) (.head _)
  obtain ⟨t1, t2, t3⟩ := N (122, tabObj #[]) (.tail _ (.head _))
  have H := law_body (Γ := gam w s₁) (n := 20) (L := L) (f := fa) (cd := cd) (Q := fun f st' => f = .ret (.bool true) ∧ st'.heap[1]? = some (.tab lamT)) G (a := a) (as := as) (ws := ws) (fun h hi => let ⟨o, e, r⟩ := hlist; ⟨o, hi _ _ e, r⟩) hI hs (fun st' e1 e2 => ⟨rfl, e1⟩)
  have rep : Rep (gam w s₁) (lawEnv (gam w s₁) L fa cd) [L + 1, 122] [L] { loc := [("script", .val (.ref a))], cl := [("times", 0)], heap := [.cell Option.none, .tab []], pin := [(1, 122)] } { s₁ with heap := h₁, toks := tk₁ } := by
    refine ⟨⟨h₁, tk₁, rfl⟩, fun b o e => F.keep b o e, rfl, ?_, fun b hb => ?_, fun b hb => ?_, fun b hb q => ?_, fun k o e => ?_, List.mem_singleton.mpr rfl, fun b hb => ?_, ⟨m, F.ns, fun x v e => ?_⟩, fun x k e => ?_, fun q hq => ?_⟩
    · refine List.nodup_cons.mpr ⟨fun q => ?_, List.nodup_cons.mpr ⟨List.not_mem_nil, List.nodup_nil⟩⟩
      exact absurd (List.mem_singleton.mp q).symm (Nat.ne_of_lt (Nat.lt_succ_of_lt hlt))
    · rcases List.mem_cons.mp hb with rfl | hb
      · exact n3
      · rw [List.mem_singleton.mp hb]; exact t3
    · rw [List.mem_singleton.mp hb]; exact hL0
    · have h1 : (b : Nat) = L := List.mem_singleton.mp q
      have h2 : 122 < (L : Nat) := hlt
      rcases List.mem_cons.mp hb with hb | hb
      · exact absurd (h1.symm.trans hb) (Nat.ne_of_lt (Nat.lt_succ_self _))
      · exact absurd (h1.symm.trans (List.mem_singleton.mp hb)) (Nat.ne_of_gt hlt)
    · match k, e with
      | 0, e => cases e; exact ⟨L + 1, rfl, .cellN n1 hwc⟩
      | 1, e => cases e; exact ⟨122, rfl, .tab t1 .nil⟩
    · rw [List.mem_singleton.mp hb]
      obtain ⟨o, _, _, e, _⟩ := F.ns
      exact ⟨o, e⟩
    · rcases lk_cases e with ⟨rfl, rfl⟩ | e
      · exact ⟨_, hm, .val _⟩
      · cases e
    · rcases lk_cases e with ⟨rfl, rfl⟩ | e
      · exact ⟨L + 1, rfl, rfl⟩
      · cases e
    · rw [List.mem_singleton.mp hq]; rfl
  refine wpAny_mono (H A _ _ _ (hA.le (by omega)) rep) (fun f s' ⟨ρ', b, st', x, r', v, q⟩ => ?_) fun _ _ z => z.elim
  obtain ⟨rfl, hq⟩ := q
  obtain ⟨bv, rfl, hbv⟩ := v
  cases hbv
  refine h s' (fun b o e => r'.base b o e) r'.same ?_
  obtain ⟨a', f1, f2⟩ := r'.heap 1 _ hq
  have f3 : ρ'[1]? = some 122 := pre_get x.pre rfl
  rw [f3] at f1; cases f1
  cases f2 with
  | tab g1 _ => exact ⟨_, g1⟩

end

end Mine

open PySem PySem.W PyProof.Rows
theorem Mine.end_bool {c : ClaimW} {cl : PySem.Str → Option Addr} {mean : ExcName → Option Value} {args : List WData} {s₁ s' : Shared} {b : Bool} (hk : ∀ b o, s₁.heap.get? b = some o → s'.heap.get? b = some o) (hg : s'.gens = #[]) (hn : ∀ cls, c.raises args cls = false) (hp : c.post args (.bool b) args = true) (hos : s'.os = s₁.os) :
    GoodW c cl mean args s₁ (.ok (.ret (.bool b))) s' := ⟨.inl ⟨.bool b, .bool b, [], rfl, hn, .bool b, hp, unshared_nil⟩, hk, hos, hg⟩
theorem Mine.aok_top {e : Env} : Mine.AOk 30 (callerA.deeper e) := Mine.AOk.deeper (n := 30) ⟨rfl, by decide +kernel, by decide +kernel⟩
set_option maxRecDepth 100000 in
set_option maxHeartbeats 8000000 in
theorem PySem.Challenge.cw_ty0018_01_holds : PySem.Challenge.rw_ty0018_01.Holds :=
  Mine.hd (by
    k_go0
    refine Mine.law_top (by assumption) (by assumption) (by assumption) (by assumption) (by assumption) (Eq.trans (by assumption) (by kernel_rfl)) (by kernel_rfl) (ghost_list (by assumption) (by assumption)) (by assumption) (by omega) Mine.aok_top ?_
    rintro s' hk ⟨h', tk', rfl⟩ hp
    refine ⟨Mine.end_bool hk (by assumption) (fun _ => rfl) (by kernel_rfl) rfl, hp, trivial⟩)
