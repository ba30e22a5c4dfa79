import PyProof.Rows.All
import Wide.All
import OpenK.AllK
import Wide.FinOn
import KE.BitLaws
import PySem.Challenge.RW_rl0018_02
open PySem
set_option Elab.async false
set_option autoImplicit false
namespace Mine
/-! heaps only grow -/
theorem runs_size {M : Model} {Γ : Ctx} {p : Pos} {t : Sem Fin} {fs : List Frame} {s s' : Shared} {e : End} (h : Runs M Γ p t fs s e s') : s.heap.objs.size ≤ s'.heap.objs.size := by
  induction h <;> (try simp only [Shared.setGen, Heap.size_update, Heap.size_push] at *) <;> omega
theorem returns_size {M : Model} {Γ : Ctx} {p : Pos} {s s' : Shared} {r : Result} (h : Returns M Γ p s r s') : s.heap.objs.size ≤ s'.heap.objs.size := runs_size h
theorem wakes_size {M : Model} {Γ : Ctx} {p : Pos} {g : Nat} {r : Resume} {s s' : Shared} {res : GenResult} (h : Wakes M Γ p g r s res s') : s.heap.objs.size ≤ s'.heap.objs.size := by
  unfold Wakes at h
  split at h
  · exact h.elim
  · split at h
    · obtain ⟨e₁, s₁, hr, _, _, rfl⟩ := h
      exact (runs_size hr : (s.setGen g .running).heap.objs.size ≤ s₁.heap.objs.size)
    · rw [h.2]; exact Nat.le_refl _
    · rw [h.2]; exact Nat.le_refl _
  · obtain ⟨e₁, s₁, hr, _, _, rfl⟩ := h
    exact (runs_size hr : (s.setGen g .running).heap.objs.size ≤ s₁.heap.objs.size)
  · rw [h.2]; exact Nat.le_refl _
  · rw [h.2]; exact Nat.le_refl _
theorem wp_size {α : Type} (M : Model) (Γ : Ctx) (n : Nat) (t : Sem α) : ∀ (Q : α → Pos → Shared → Prop) (E : Value → Pos → Shared → Prop) (p : Pos) (s : Shared), n ≤ s.heap.objs.size → Sem.wp M Γ t Q E p s →
    Sem.wp M Γ t (fun a p' s' => n ≤ s'.heap.objs.size ∧ Q a p' s') (fun e p' s' => n ≤ s'.heap.objs.size ∧ E e p' s') p s := by
  induction t with
  | pure a => intro Q E p s hn h; exact ⟨hn, h⟩
  | raise e => intro Q E p s hn h; exact ⟨hn, h⟩
  | unsupported _ => intro Q E p s _ h; exact h
  | finish _ => intro Q E p s _ h; exact h
  | rule _ k ih => intro Q E p s hn h; exact ih () Q E p s hn h
  | «at» p' k ih => intro Q E p s hn h; exact ih () Q E p' s hn h
  | load a _ k ih => intro Q E p s hn h; obtain ⟨o, ho, h⟩ := h; exact ⟨o, ho, ih o Q E p s hn h⟩
  | update a _ f k ih => intro Q E p s hn h; exact ⟨h.1, ih () Q E p _ (by show n ≤ (s.heap.update a f).objs.size; rw [Heap.size_update]; exact hn) h.2⟩
  | loadIfAlive a k ih => intro Q E p s hn h; exact ih _ Q E p s hn h
  | point _ k ih => intro Q E p s hn h; exact ih () Q E p s hn h
  | register _ _ => intro Q E p s _ h; exact h
  | alloc o k ih => intro Q E p s hn h; exact ih _ Q E p _ (by show n ≤ (s.heap.push o).objs.size; rw [Heap.size_push]; omega) h
  | fresh k ih => intro Q E p s hn h; exact ih _ Q E p _ hn h
  | ask k ih => intro Q E p s hn h; exact ih _ Q E p s hn h
  | choose src m k ih => intro Q E p s hn h; exact ⟨h.1, ih _ Q E p _ hn h.2⟩
  | os q _ k ih => intro Q E p s hn h; exact ih _ Q E p _ hn h
  | call c hd _ _ k ih => intro Q E p s hn h; obtain ⟨r, s', hr, h⟩ := h; exact ⟨r, s', hr, ih r Q E p s' (Nat.le_trans hn (returns_size hr)) h⟩
  | handled own k ih => intro Q E p s hn h; exact ih _ Q E p s hn h
  | genState g k ih => intro Q E p s hn h; obtain ⟨st, hs, h⟩ := h; exact ⟨st, hs, ih _ Q E p s hn h⟩
  | newGen c k ih => intro Q E p s hn h; exact ih _ Q E p _ hn h
  | resume g r _ k ih => intro Q E p s hn h; obtain ⟨res, s', hw, h⟩ := h; exact ⟨res, s', hw, ih res Q E p s' (Nat.le_trans hn (wakes_size hw)) h⟩
  | yield _ _ _ _ => intro Q E p s _ h; exact h
  | stack k ih => intro Q E p s hn h; exact ih _ Q E p s hn h
  | fork _ _ => intro Q E p s _ h; exact h
  | thread k ih => intro Q E p s hn h; exact ih _ Q E p s hn h
  | await _ _ _ _ _ => intro Q E p s _ h; exact h
theorem wpAny_size {α : Type} {M : Model} {A : Around} {s : Shared} {t : Sem α} {Q : α → Shared → Prop} {E : Value → Shared → Prop} (h : wpAny M A t Q E s) :
    wpAny M A t (fun a s' => s.heap.objs.size ≤ s'.heap.objs.size ∧ Q a s') E s :=
  wpAny_mono (E' := E) (show wpAny M A t (fun a s' => s.heap.objs.size ≤ s'.heap.objs.size ∧ Q a s') (fun e s' => s.heap.objs.size ≤ s'.heap.objs.size ∧ E e s') s from
    fun Γ p hΓ => wp_size M Γ _ t _ _ p s (Nat.le_refl _) (h Γ p hΓ)) (fun _ _ x => x) fun _ _ x => x.2
theorem codeAny_size {M : Model} {A : Around} {s : Shared} {c : Code} {R : Result → Shared → Prop} (h : codeAny M A c R s) : codeAny M A c (fun r s' => s.heap.objs.size ≤ s'.heap.objs.size ∧ R r s') s :=
  fun Γ p hc hΓ => by obtain ⟨r, s', hr, hR⟩ := h Γ p hc hΓ; exact ⟨r, s', hr, returns_size hr, hR⟩
end Mine
open PySem PySem.W PyProof.Rows
set_option Elab.async false
set_option autoImplicit false
namespace Mine

/-! Part 0: data as monotone predicates on (view of the heap, value) -/
abbrev View := Addr → Option Obj

def isData (o : Obj) : Bool := match o.data with
  | .seq _ _ => true
  | .fields _ => o.cls == .type "range"
  | _ => false
theorem isData_seq {o : Obj} {vs : Array Value} {k : Nat} (h : o.data = .seq vs k) : isData o = true := by unfold isData; rw [h]

def VLe (g g' : View) : Prop := ∀ b o, g b = some o → isData o = true → g' b = some o
theorem VLe.refl (g : View) : VLe g g := fun _ _ e _ => e
theorem VLe.trans {g g' g'' : View} (h : VLe g g') (h' : VLe g' g'') : VLe g g'' := fun b o e d => h' b o (h b o e d) d

def vw (N : List Addr) (h : Heap) : View := fun b => if b ∈ N then none else h.get? b
theorem vw_some {N : List Addr} {h : Heap} {b : Addr} {o : Obj} : vw N h b = some o ↔ b ∉ N ∧ h.get? b = some o := by
  unfold vw; split <;> simp_all
theorem vw_get {N : List Addr} {h : Heap} {b : Addr} {o : Obj} (e : vw N h b = some o) : h.get? b = some o := (vw_some.mp e).2
theorem vw_le {N : List Addr} {h h' : Heap} (k : ∀ b o, h.get? b = some o → h'.get? b = some o) : VLe (vw N h) (vw N h') := fun b o e _ =>
  let x := vw_some.mp e; vw_some.mpr ⟨x.1, k b o x.2⟩
theorem vw_le_nil {N : List Addr} {h : Heap} : VLe (vw N h) (vw [] h) := fun b o e _ => vw_some.mpr ⟨by simp, vw_get e⟩
theorem vw_le_sub {N N' : List Addr} {h : Heap} (hs : ∀ a ∈ N', a ∈ N) : VLe (vw N h) (vw N' h) := fun _ _ e _ =>
  let x := vw_some.mp e; vw_some.mpr ⟨fun hm => x.1 (hs _ hm), x.2⟩

structure Val where
  holds : View → Value → Prop
  mono : ∀ g g' v, VLe g g' → holds g v → holds g' v

def iV (i : Int) : Val := ⟨fun _ v => ∃ t, v = .int i t, fun _ _ _ _ h => h⟩
def sV (x : Str) : Val := ⟨fun _ v => ∃ t, v = .str x t, fun _ _ _ _ h => h⟩
def bV (b : Bool) : Val := ⟨fun _ v => v = .bool b, fun _ _ _ _ h => h⟩
def nV : Val := ⟨fun _ v => v = .none, fun _ _ _ _ h => h⟩

theorem Paired.imp {α β : Type} {F G : α → β → Prop} (h : ∀ a b, F a b → G a b) : ∀ {l : List α} {r : List β}, Paired F l r → Paired G l r
  | _, _, .nil => .nil
  | _, _, .cons a b => .cons (h _ _ a) (Paired.imp h b)

def seqV (ty : String) {α : Type} (K : α → Val) (l : List α) : Val where
  holds g v := ∃ a vs n, v = .ref a ∧ g a = some { cls := .type ty, data := .seq vs.toArray n } ∧ Paired (fun v x => (K x).holds g v) vs l
  mono := by
    rintro g g' v hk ⟨a, vs, n, rfl, ho, hp⟩
    exact ⟨a, vs, n, rfl, hk a _ ho rfl, Paired.imp (fun v x h => (K x).mono _ _ _ hk h) hp⟩
/-- a list, perhaps with a dict of its own -/
def wV {α : Type} (K : α → Val) (l : List α) : Val where
  holds g v := ∃ a o vs n, v = .ref a ∧ g a = some o ∧ o.cls = .type "list" ∧ o.data = .seq vs.toArray n ∧ Paired (fun v x => (K x).holds g v) vs l
  mono := by
    rintro g g' v hk ⟨a, o, vs, n, rfl, ho, hc, hd, hp⟩
    exact ⟨a, o, vs, n, rfl, hk a o ho (isData_seq hd), hc, hd, Paired.imp (fun v x h => (K x).mono _ _ _ hk h) hp⟩
abbrev lV {α : Type} (K : α → Val) (l : List α) : Val := seqV "list" K l
abbrev tV {α : Type} (K : α → Val) (l : List α) : Val := seqV "tuple" K l

/-- the range of the ints lo .. hi - 1, by ones -/
def rV (lo hi : Int) : Val where
  holds g v := ∃ r t u x, v = .ref r ∧ g r = some { cls := .type "range", data := .fields #[.int lo t, .int hi u, .int 1 x] }
  mono := by
    rintro g g' v hk ⟨r, t, u, x, rfl, ho⟩
    exact ⟨r, t, u, x, rfl, hk r _ ho rfl⟩

/-- what stood stands as it was, and the heap has grown -/
structure Kp (s s' : Shared) : Prop where
  keeps : Keeps s s'
  size : s.heap.objs.size ≤ s'.heap.objs.size
theorem keeps_refl (s : Shared) : Kp s s := ⟨⟨s.heap, s.toks, rfl, fun _ _ e => e⟩, Nat.le_refl _⟩
theorem keeps_trans {s s' s'' : Shared} (h : Kp s s') (h' : Kp s' s'') : Kp s s'' := by
  refine ⟨?_, Nat.le_trans h.size h'.size⟩
  obtain ⟨⟨h1, t1, rfl, k1⟩, _⟩ := h
  obtain ⟨⟨h2, t2, rfl, k2⟩, _⟩ := h'
  exact ⟨h2, t2, rfl, fun b o e => k2 b o (k1 b o e)⟩
theorem keeps_get {s s' : Shared} (h : Kp s s') : ∀ b o, s.heap.get? b = some o → s'.heap.get? b = some o := by
  obtain ⟨⟨h1, t1, rfl, k1⟩, _⟩ := h; exact k1
theorem keeps_toks {s : Shared} {tk : Nat} : Kp s { s with toks := tk } := ⟨⟨s.heap, tk, rfl, fun _ _ e => e⟩, Nat.le_refl _⟩
theorem keeps_push {s : Shared} {o : Obj} : Kp s { s with heap := s.heap.push o } := ⟨⟨_, s.toks, rfl, fun _ _ e => Heap.get?_push_of_some _ e⟩, by show _ ≤ (s.heap.push o).objs.size; rw [Heap.size_push]; omega⟩
theorem keeps_vw {N : List Addr} {s s' : Shared} (h : Kp s s') : VLe (vw N s.heap) (vw N s'.heap) := vw_le (keeps_get h)

/-! Part 1: the judgement -/
structure Cx where
  prog : Program
  w : World
  mg : Str → Option Value
  mb : Str → Option Value
  K : Frag
  F : List (Str × Addr)

def Cx.M (X : Cx) : Model := model X.prog X.w

/-- the built-in names that the text reads and does not bind -/
def bnames : List Str := ["sum", "range", "sorted", "len", "min", "hex", "isinstance", "bool"]

structure Gd (X : Cx) (h : Heap) : Prop where
  g : h.Ns mainGlobals X.mg
  b : h.Ns builtinsNs X.mb
  bl : ∀ x : Str, x ≠ "__name__" → X.mb x = bootBuiltins x
  lim : h.NoLimit
  frag : X.K.In h
  bn : ∀ f ∈ bnames, X.mg f = none
  fn : ∀ p ∈ X.F, X.mg p.1 = some (.ref p.2)
theorem Gd.keeps {X : Cx} {h h' : Heap} (G : Gd X h) (k : ∀ b o, h.get? b = some o → h'.get? b = some o) : Gd X h' :=
  ⟨G.g.keeps k, G.b.keeps k, G.bl, G.lim.keeps k, G.frag.keeps k, G.bn, G.fn⟩

structure Lev (n : Nat) (A : Around) : Prop where
  handled : A.handled = none
  depth : A.depth + n < 900
  units : A.units + 20 * n < 5000

structure Base (X : Cx) (n : Nat) (A : Around) (N : List Addr) (s : Shared) : Prop where
  lev : Lev n A
  gd : Gd X s.heap
  live : ∀ a ∈ N, a < s.heap.objs.size
theorem Base.keeps {X : Cx} {n : Nat} {A : Around} {N : List Addr} {s s' : Shared} (B : Base X n A N s) (k : Kp s s') : Base X n A N s' :=
  ⟨B.lev, B.gd.keeps (keeps_get k), fun a ha => Nat.lt_of_lt_of_le (B.live a ha) k.size⟩
theorem Base.fresh {X : Cx} {n : Nat} {A : Around} {N : List Addr} {s : Shared} (B : Base X n A N s) {a : Addr} (h : s.heap.objs.size ≤ a) : a ∉ N := fun hm => by
  exact absurd (B.live a hm) (Nat.not_lt.mpr h)

structure EnvIs (sc : Scope) (env : Env) : Prop where
  eq : env.scope = sc
  kind : sc.kind = .function
  g : env.globals = mainGlobals
  b : env.builtins = builtinsNs
  cells : ∀ z, sc.names.lookup z = some .cell ∨ sc.names.lookup z = some .free → ∃ c, env.cells.lookup z = some c
theorem EnvIs.kindOf {sc : Scope} {env : Env} (I : EnvIs sc env) (x : Str) : env.kindOf x = sc.names.lookup x := by
  unfold Env.kindOf; rw [I.eq]

def sees (sc : Scope) (x : Str) : Bool := match sc.names.lookup x with
  | some .local => x != ".0"
  | some .cell => true
  | some .free => true
  | _ => false

def BoundTo (env : Env) (h : Heap) (x : Str) (v : Value) : Prop :=
  (env.kindOf x = some .local ∧ ∃ m, h.Ns env.locals m ∧ m x = some v) ∨
  ((env.kindOf x = some .cell ∨ env.kindOf x = some .free) ∧ ∃ c, env.cells.lookup x = some c ∧ h.IsCell c (some v))
theorem BoundTo.keeps {env : Env} {h h' : Heap} {x : Str} {v : Value} (B : BoundTo env h x v) (k : ∀ b o, h.get? b = some o → h'.get? b = some o) : BoundTo env h' x v := by
  rcases B with ⟨hk, m, hn, hm⟩ | ⟨hk, c, hc, hv⟩
  · exact .inl ⟨hk, m, hn.keeps k, hm⟩
  · exact .inr ⟨hk, c, hc, hv.keeps k⟩

abbrev Rho := Str → Option Val
def upd (ρ : Rho) (x : Str) (V : Val) : Rho := fun y => if y = x then some V else ρ y
theorem upd_eq {ρ : Rho} {x : Str} {V : Val} : upd ρ x V x = some V := if_pos rfl
theorem upd_ne {ρ : Rho} {x y : Str} {V : Val} (h : y ≠ x) : upd ρ x V y = ρ y := if_neg h

def EnvOK (env : Env) (N : List Addr) (ρ : Rho) (h : Heap) : Prop :=
  ∀ x V, ρ x = some V → sees env.scope x = true → ∃ v, V.holds (vw N h) v ∧ BoundTo env h x v
theorem EnvOK.keeps {env : Env} {N : List Addr} {ρ : Rho} {h h' : Heap} (e : EnvOK env N ρ h) (k : ∀ b o, h.get? b = some o → h'.get? b = some o) : EnvOK env N ρ h' :=
  fun x V hx hs => let ⟨v, hv, hb⟩ := e x V hx hs; ⟨v, V.mono _ _ _ (vw_le k) hv, hb.keeps k⟩

structure Pre (X : Cx) (n : Nat) (sc : Scope) (ρ : Rho) (A : Around) (env : Env) (N : List Addr) (s : Shared) : Prop where
  base : Base X n A N s
  is : EnvIs sc env
  ok : EnvOK env N ρ s.heap
theorem Pre.keeps {X : Cx} {n : Nat} {sc : Scope} {ρ : Rho} {A : Around} {env : Env} {N : List Addr} {s s' : Shared} (P : Pre X n sc ρ A env N s) (k : Kp s s') : Pre X n sc ρ A env N s' :=
  ⟨P.base.keeps k, P.is, P.ok.keeps (keeps_get k)⟩

def Res (N : List Addr) (s : Shared) (V : Val) : Value → Shared → Prop := fun v s' => V.holds (vw N s'.heap) v ∧ Kp s s'

/-- the expression's value is V, and nothing that stood changes -/
structure Ev (X : Cx) (n : Nat) (sc : Scope) (ρ : Rho) (e : Expr) (V : Val) : Prop where
  go : ∀ (A : Around) (env : Env) (N : List Addr) (s : Shared) (E : Value → Shared → Prop), Pre X n sc ρ A env N s → wpAny X.M A (eval e env) (Res N s V) E s
/-- the test's outcome is b -/
structure EvT (X : Cx) (n : Nat) (sc : Scope) (ρ : Rho) (e : Expr) (b : Bool) : Prop where
  go : ∀ (A : Around) (env : Env) (N : List Addr) (s : Shared) (E : Value → Shared → Prop), Pre X n sc ρ A env N s → wpAny X.M A (isTrue e env (eval e env)) (fun r s' => r = b ∧ Kp s s') E s

def Op1 (X : Cx) (n : Nat) (f : Value → Sem Value) (V₁ V : Val) : Prop :=
  ∀ (A : Around) (N : List Addr) (s : Shared) (a : Value) (E : Value → Shared → Prop), Base X n A N s → V₁.holds (vw N s.heap) a → wpAny X.M A (f a) (Res N s V) E s
def Op2 (X : Cx) (n : Nat) (f : Value → Value → Sem Value) (V₁ V₂ V : Val) : Prop :=
  ∀ (A : Around) (N : List Addr) (s : Shared) (a b : Value) (E : Value → Shared → Prop), Base X n A N s → V₁.holds (vw N s.heap) a → V₂.holds (vw N s.heap) b → wpAny X.M A (f a b) (Res N s V) E s

section
variable {X : Cx} {n : Nat} {sc : Scope} {ρ : Rho}

theorem res_mono {N : List Addr} {s s' : Shared} {V : Val} {A : Around} {t : Sem Value} {E : Value → Shared → Prop} (k : Kp s s') (h : wpAny X.M A t (Res N s' V) E s') : wpAny X.M A t (Res N s V) E s' :=
  wpAny_mono h (fun _ _ r => ⟨r.1, keeps_trans k r.2⟩) fun _ _ e => e

/-- it is enough to show that what stood stands -/
theorem res_of {N : List Addr} {s : Shared} {V : Val} {A : Around} {t : Sem Value} {E : Value → Shared → Prop} (h : wpAny X.M A t (fun v s' => V.holds (vw N s'.heap) v ∧ Keeps s s') E s) : wpAny X.M A t (Res N s V) E s :=
  wpAny_mono (wpAny_size h) (fun _ _ x => ⟨x.2.1, x.2.2, x.1⟩) fun _ _ e => e

theorem Ev.cast {e : Expr} {V V' : Val} (h : Ev X n sc ρ e V) (e' : V = V') : Ev X n sc ρ e V' := e' ▸ h
theorem EvT.cast {e : Expr} {b b' : Bool} (h : EvT X n sc ρ e b) (e' : b = b') : EvT X n sc ρ e b' := e' ▸ h

theorem Ev.const_int {i : Int} {k : Nat} {pos : Pos} : Ev X n sc ρ (.Constant (.int i) k pos) (iV i) := .mk fun _ _ _ _ _ _ =>
  wpAny_mkInt ⟨⟨_, rfl⟩, keeps_toks⟩
theorem Ev.const_str {x : Str} {k : Nat} {pos : Pos} : Ev X n sc ρ (.Constant (.str x) k pos) (sV x) := .mk fun _ _ _ _ _ _ =>
  wpAny_mkText ⟨⟨_, rfl⟩, keeps_toks⟩
theorem Ev.const_bool {b : Bool} {k : Nat} {pos : Pos} : Ev X n sc ρ (.Constant (.bool b) k pos) (bV b) := .mk fun _ _ _ s _ _ =>
  wpAny_pure ⟨rfl, keeps_refl s⟩

theorem loadName_bound {A : Around} {env : Env} {s : Shared} {E : Value → Shared → Prop} {Q : Value → Shared → Prop} {x : Str} {v : Value} (hk : env.scope.kind = .function) (B : BoundTo env s.heap x v)
    (hc : (x == ("__classdict__" : Str)) = false) (h : Q v s) : wpAny X.M A (loadName env x) Q E s := by
  rcases B with ⟨hl, m, hn, hm⟩ | ⟨hl | hl, c, hcl, hv⟩
  · exact wpAny_loadName_local hk hl hn hm h
  · exact wpAny_loadName_cell hk hl hcl hv h
  · exact wpAny_loadName_free hk hl hcl hv h hc

def okName (x : Str) : Bool := !(x == ("__debug__" : Str)) && !(x == ("__classdict__" : Str))

theorem Ev.name {x : Str} {pos : Pos} {V : Val} (hx : ρ x = some V) (hs : (sees sc x && okName x) = true) : Ev X n sc ρ (.Name x pos) V := .mk fun A env N s E P => by
  obtain ⟨h1, h2⟩ := Bool.and_eq_true_iff.mp hs
  obtain ⟨h3, h4⟩ := Bool.and_eq_true_iff.mp h2
  obtain ⟨v, hv, hb⟩ := P.ok x V hx (by rw [P.is.eq]; exact h1)
  exact wpAny_Name (loadName_bound (by rw [P.is.eq]; exact P.is.kind) hb (by simpa using h4) ⟨hv, keeps_refl s⟩) (by simpa using h3)

theorem Ev.binop {l r : Expr} {op : Operator} {pos : Pos} {V₁ V₂ V : Val} (hl : Ev X n sc ρ l V₁) (hr : Ev X n sc ρ r V₂) (ho : Op2 X n (binaryOp op) V₁ V₂ V) : Ev X n sc ρ (.BinOp l op r pos) V := .mk fun A env N s E P => by
  refine wpAny_BinOp (wpAny_mono (hl.go A env N s E P) (fun a s₁ ha => ?_) fun _ _ e => e)
  refine wpAny_mono (hr.go A env N s₁ E (P.keeps ha.2)) (fun b s₂ hb => ?_) fun _ _ e => e
  exact res_mono (keeps_trans ha.2 hb.2) (ho A N s₂ a b E (P.base.keeps (keeps_trans ha.2 hb.2)) (V₁.mono _ _ _ (keeps_vw hb.2) ha.1) hb.1)

theorem Ev.compare {l r : Expr} {op : CmpOp} {pos : Pos} {V₁ V₂ V : Val} (hl : Ev X n sc ρ l V₁) (hr : Ev X n sc ρ r V₂) (ho : Op2 X n (compareOp op) V₁ V₂ V)
    (hm : behindInMarks op r = false := by with_unfolding_all rfl) : Ev X n sc ρ (.Compare l [op] [r] pos) V := .mk fun A env N s E P => by
  refine wpAny_Compare1 (wpAny_mono (hl.go A env N s E P) (fun a s₁ ha => ?_) fun _ _ e => e) hm
  refine wpAny_mono (hr.go A env N s₁ E (P.keeps ha.2)) (fun b s₂ hb => ?_) fun _ _ e => e
  exact res_mono (keeps_trans ha.2 hb.2) (ho A N s₂ a b E (P.base.keeps (keeps_trans ha.2 hb.2)) (V₁.mono _ _ _ (keeps_vw hb.2) ha.1) hb.1)

theorem EvT.compare {l r : Expr} {op : CmpOp} {pos : Pos} {V₁ V₂ : Val} {b : Bool} (hl : Ev X n sc ρ l V₁) (hr : Ev X n sc ρ r V₂) (ho : Op2 X n (compareOp op) V₁ V₂ (bV b))
    (hm : behindInMarks op r = false := by with_unfolding_all rfl) : EvT X n sc ρ (.Compare l [op] [r] pos) b := .mk fun A env N s E P => by
  refine wpAny_isTrue_Compare1 (wpAny_mono (hl.go A env N s E P) (fun a s₁ ha => ?_) fun _ _ e => e) hm
  refine wpAny_mono (hr.go A env N s₁ E (P.keeps ha.2)) (fun c s₂ hb => ?_) fun _ _ e => e
  refine wpAny_mono (ho A N s₂ a c E (P.base.keeps (keeps_trans ha.2 hb.2)) (V₁.mono _ _ _ (keeps_vw hb.2) ha.1) hb.1) (fun v s₃ hv => ?_) fun _ _ e => e
  obtain ⟨rfl, k⟩ := hv
  exact wpAny_truthy_bool ⟨rfl, keeps_trans (keeps_trans ha.2 hb.2) k⟩

theorem Ev.ifexp {t e₁ e₂ : Expr} {pos : Pos} {b : Bool} {V : Val} (ht : EvT X n sc ρ t b) (h₁ : b = true → Ev X n sc ρ e₁ V) (h₂ : b = false → Ev X n sc ρ e₂ V) : Ev X n sc ρ (.IfExp t e₁ e₂ pos) V := .mk fun A env N s E P => by
  refine wpAny_IfExp (wpAny_mono (ht.go A env N s E P) (fun r s₁ hr => ?_) fun _ _ e => e)
  obtain ⟨rfl, k⟩ := hr
  cases r with
  | true => exact res_mono k ((h₁ rfl).go A env N s₁ E (P.keeps k))
  | false => exact res_mono k ((h₂ rfl).go A env N s₁ E (P.keeps k))

theorem EvT.not {e : Expr} {pos : Pos} {b : Bool} (h : EvT X n sc ρ e b) : EvT X n sc ρ (.UnaryOp .Not e pos) (!b) := .mk fun A env N s E P =>
  wpAny_isTrue_Not (wpAny_mono (h.go A env N s E P) (fun r s₁ hr => ⟨by rw [hr.1], hr.2⟩) fun _ _ e => e)

theorem EvT.or {e₁ e₂ : Expr} {pos : Pos} {b c : Bool} (h₁ : EvT X n sc ρ e₁ b) (h₂ : b = false → EvT X n sc ρ e₂ c) : EvT X n sc ρ (.BoolOp .Or [e₁, e₂] pos) (b || c) := .mk fun A env N s E P => by
  refine wpAny_isTrue_BoolOp ?_
  show wpAny X.M A (do
    match BoolOp.Or, ← isTrue e₁ env (eval e₁ env) with
    | .And, false => pure false
    | .Or, true => pure true
    | _, _ => allTrue .Or [e₂] env) _ E s
  refine wpAny_bind (wpAny_mono (h₁.go A env N s E P) (fun r s₁ hr => ?_) fun _ _ e => e)
  obtain ⟨rfl, k⟩ := hr
  cases r with
  | true => exact wpAny_pure ⟨rfl, k⟩
  | false =>
    show wpAny X.M A (do
      match BoolOp.Or, ← isTrue e₂ env (eval e₂ env) with
      | .And, false => pure false
      | .Or, true => pure true
      | _, _ => allTrue .Or [] env) _ E s₁
    refine wpAny_bind (wpAny_mono ((h₂ rfl).go A env N s₁ E (P.keeps k)) (fun r s₂ hr => ?_) fun _ _ e => e)
    obtain ⟨rfl, k₂⟩ := hr
    cases r with
    | true => exact wpAny_pure ⟨rfl, keeps_trans k k₂⟩
    | false => exact wpAny_pure ⟨rfl, keeps_trans k k₂⟩

/-- a test by a value's truth -/
theorem EvT.value {e : Expr} {V : Val} {b : Bool} (h : Ev X n sc ρ e V) (ht : ∀ (A : Around) (N : List Addr) (s : Shared) (v : Value) (E : Value → Shared → Prop), Base X n A N s → V.holds (vw N s.heap) v → wpAny X.M A (truthy v) (fun r s' => r = b ∧ Kp s s') E s)
    (he : ∀ env whole, isTrue e env whole = (do let v ← whole; standAt e.pos; holding [v] (truthy v)) := by intro _ _; rfl) : EvT X n sc ρ e b := .mk fun A env N s E P => by
  refine wpAny_isTrue_value (wpAny_mono (h.go A env N s E P) (fun v s₁ hv => ?_) fun _ _ e => e) (he env _)
  exact wpAny_mono (ht A N s₁ v E (P.base.keeps hv.2) hv.1) (fun r s₂ hr => ⟨hr.1, keeps_trans hv.2 hr.2⟩) fun _ _ e => e
end

end Mine
open PySem PySem.W PyProof.Rows
set_option Elab.async false
set_option autoImplicit false
namespace Mine
section
variable {X : Cx} {n : Nat} {sc : Scope} {ρ : Rho}

/-! ints -/
theorem res_int {N : List Addr} {s : Shared} {i : Int} {t : Tok} : Res N s (iV i) (.int i t) { s with toks := s.toks + 1 } := ⟨⟨_, rfl⟩, keeps_toks⟩

theorem op_add {a b : Int} : Op2 X n (binaryOp .Add) (iV a) (iV b) (iV (a + b)) := by
  rintro A N s _ _ E B ⟨t, rfl⟩ ⟨u, rfl⟩; exact wpAny_add_int res_int
theorem op_sub {a b : Int} : Op2 X n (binaryOp .Sub) (iV a) (iV b) (iV (a - b)) := by
  rintro A N s _ _ E B ⟨t, rfl⟩ ⟨u, rfl⟩; exact PyProof.Rows.sub_int res_int
theorem mulOk_left {a b : Int} (h : a.natAbs < 2 ^ 63) : IntMulOk a b := by
  refine IntMulOk.of_left ?_
  unfold Builtin.Int.intBits
  split
  · omega
  · rename_i h0
    have h1 : a.natAbs ≠ 0 := by simp at h0; omega
    have : a.natAbs.log2 < 63 := (Nat.log2_lt h1).mpr h
    omega
theorem op_mul {a b : Int} (h : a.natAbs < 2 ^ 63) : Op2 X n (binaryOp .Mult) (iV a) (iV b) (iV (a * b)) := by
  rintro A N s _ _ E B ⟨t, rfl⟩ ⟨u, rfl⟩; exact PyProof.Rows.mul_int res_int (mulOk_left h)
theorem op_mod {a b : Int} (hb : 0 < b) : Op2 X n (binaryOp .Mod) (iV a) (iV b) (iV (a % b)) := by
  rintro A N s _ _ E B ⟨t, rfl⟩ ⟨u, rfl⟩
  refine PyProof.Rows.mod_int' (by omega) ?_
  rw [Int.fmod_eq_emod_of_nonneg _ (by omega)]; exact res_int
theorem op_fdiv {a b : Int} (hb : 0 < b) (hb2 : b.natAbs < 2 ^ 63) : Op2 X n (binaryOp .FloorDiv) (iV a) (iV b) (iV (a / b)) := by
  rintro A N s _ _ E B ⟨t, rfl⟩ ⟨u, rfl⟩
  refine PyProof.Rows.floordiv_int (by omega) ?_ ?_
  · rw [Int.fdiv_eq_ediv_of_nonneg _ (by omega)]; exact res_int
  · left
    unfold Builtin.divisionGoesByPylong
    have : b.natAbs.log2 < 63 := (Nat.log2_lt (by omega)).mpr hb2
    have h2 : ¬ ((if (b == 0) = true then 0 else b.natAbs.log2 / 30 + 1) > 300) := by split <;> omega
    simp only [h2, decide_false, Bool.false_and]
theorem op_rshift {a b : Int} (hb : 0 ≤ b) : Op2 X n (binaryOp .RShift) (iV a) (iV b) (iV (a / 2 ^ b.toNat)) := by
  rintro A N s _ _ E B ⟨t, rfl⟩ ⟨u, rfl⟩
  refine PyProof.Rows.rshift_int hb ?_
  rw [Int.fdiv_eq_ediv_of_nonneg _ (by exact Int.pow_nonneg (by decide))]; exact res_int
theorem op_lshift {a b : Int} (hb : 0 ≤ b) (hb2 : b ≤ 1000000) (ha : a.natAbs < 2 ^ 64) : Op2 X n (binaryOp .LShift) (iV a) (iV b) (iV (a * 2 ^ b.toNat)) := by
  rintro A N s _ _ E B ⟨t, rfl⟩ ⟨u, rfl⟩
  exact PyProof.Rows.lshift_int_small hb hb2 ha res_int
theorem op_pow {a b : Int} (hb : 0 ≤ b) (hsz : (Builtin.Int.intBits a : Int) * b ≤ 2 ^ 27) : Op2 X n (binaryOp .Pow) (iV a) (iV b) (iV (a ^ b.toNat)) := by
  rintro A N s _ _ E B ⟨t, rfl⟩ ⟨u, rfl⟩
  exact PyProof.Rows.pow_int hb hsz res_int
theorem op_and {a b : Int} : Op2 X n (binaryOp .BitAnd) (iV a) (iV b) (iV (Builtin.bitAnd a b)) := by
  rintro A N s _ _ E B ⟨t, rfl⟩ ⟨u, rfl⟩
  exact PyProof.Rows.and_int res_int
theorem op_xor {a b : Int} : Op2 X n (binaryOp .BitXor) (iV a) (iV b) (iV (Builtin.bitXor a b)) := by
  rintro A N s _ _ E B ⟨t, rfl⟩ ⟨u, rfl⟩
  exact PyProof.Rows.xor_int res_int
theorem op_ixor {a b : Int} : Op2 X n (inplaceOp .BitXor) (iV a) (iV b) (iV (Builtin.bitXor a b)) := by
  rintro A N s _ _ E B ⟨t, rfl⟩ ⟨u, rfl⟩
  exact PyProof.Rows.ixor_int res_int
theorem op_iadd {a b : Int} : Op2 X n (inplaceOp .Add) (iV a) (iV b) (iV (a + b)) := by
  rintro A N s _ _ E B ⟨t, rfl⟩ ⟨u, rfl⟩
  exact wpAny_iadd_int res_int

theorem cmp_lt {a b : Int} : Op2 X n (compareOp .Lt) (iV a) (iV b) (bV (decide (a < b))) := by
  rintro A N s _ _ E B ⟨t, rfl⟩ ⟨u, rfl⟩; exact wpAny_lt_int ⟨rfl, keeps_refl s⟩
theorem cmp_gt {a b : Int} : Op2 X n (compareOp .Gt) (iV a) (iV b) (bV (decide (b < a))) := by
  rintro A N s _ _ E B ⟨t, rfl⟩ ⟨u, rfl⟩; exact PyProof.Rows.gt_int ⟨rfl, keeps_refl s⟩
theorem cmp_le {a b : Int} : Op2 X n (compareOp .LtE) (iV a) (iV b) (bV (decide (a ≤ b))) := by
  rintro A N s _ _ E B ⟨t, rfl⟩ ⟨u, rfl⟩; exact PyProof.Rows.le_int ⟨rfl, keeps_refl s⟩
theorem cmp_eq {a b : Int} : Op2 X n (compareOp .Eq) (iV a) (iV b) (bV (a == b)) := by
  rintro A N s _ _ E B ⟨t, rfl⟩ ⟨u, rfl⟩; exact wpAny_eq_int ⟨rfl, keeps_refl s⟩
theorem cmp_ne {a b : Int} : Op2 X n (compareOp .NotEq) (iV a) (iV b) (bV (a != b)) := by
  rintro A N s _ _ E B ⟨t, rfl⟩ ⟨u, rfl⟩; exact PyProof.Rows.ne_int ⟨rfl, keeps_refl s⟩
theorem EvT.int {e : Expr} {i : Int} (h : Ev X n sc ρ e (iV i)) (he : ∀ env whole, PySem.isTrue e env whole = (do let v ← whole; standAt e.pos; holding [v] (truthy v)) := by intro _ _; rfl) :
    EvT X n sc ρ e (i != 0) := EvT.value h (fun A N s v E B hv => by obtain ⟨t, rfl⟩ := hv; exact PyProof.Rows.truthy_int ⟨rfl, keeps_refl s⟩) he
theorem EvT.bool {e : Expr} {b : Bool} (h : Ev X n sc ρ e (bV b)) (he : ∀ env whole, PySem.isTrue e env whole = (do let v ← whole; standAt e.pos; holding [v] (truthy v)) := by intro _ _; rfl) :
    EvT X n sc ρ e b := EvT.value h (fun A N s v E B hv => by obtain rfl := hv; exact wpAny_truthy_bool ⟨rfl, keeps_refl s⟩) he

/-! lists -/
theorem lv_plain {α : Type} {K : α → Val} {l : List α} {N : List Addr} {h : Heap} {v : Value} (hv : (lV K l).holds (vw N h) v) :
    ∃ a vs k, v = .ref a ∧ a ∉ N ∧ h.get? a = some { cls := .type "list", data := .seq vs.toArray k } ∧ Paired (fun v x => (K x).holds (vw N h) v) vs l := by
  obtain ⟨a, vs, k, rfl, ho, hp⟩ := hv
  exact ⟨a, vs, k, rfl, (vw_some.mp ho).1, vw_get ho, hp⟩
theorem lv_list {α : Type} {K : α → Val} {l : List α} {N : List Addr} {h : Heap} {v : Value} (hv : (lV K l).holds (vw N h) v) :
    ∃ a vs, v = .ref a ∧ a ∉ N ∧ h.IsList a vs.toArray ∧ Paired (fun v x => (K x).holds (vw N h) v) vs l := by
  obtain ⟨a, vs, k, rfl, ha, ho, hp⟩ := lv_plain hv
  exact ⟨a, vs, rfl, ha, ⟨_, ho, rfl, k, rfl⟩, hp⟩
theorem lv_of {α : Type} {K : α → Val} {l : List α} {N : List Addr} {h : Heap} {a : Addr} {vs : List Value} (ha : a ∉ N) (hl : h.PlainList a vs.toArray) (hp : Paired (fun v x => (K x).holds (vw N h) v) vs l) :
    (lV K l).holds (vw N h) (.ref a) := by
  obtain ⟨k, ho⟩ := hl
  exact ⟨a, vs, k, rfl, vw_some.mpr ⟨ha, ho⟩, hp⟩
theorem paired_mono {α : Type} {K : α → Val} {g g' : View} (h : VLe g g') {vs : List Value} {l : List α} (hp : Paired (fun v x => (K x).holds g v) vs l) : Paired (fun v x => (K x).holds g' v) vs l :=
  Paired.imp (fun _ x hx => (K x).mono _ _ _ h hx) hp
theorem lv_push {α : Type} {K : α → Val} {l : List α} {A : Around} {N : List Addr} {s : Shared} {vs : List Value} (B : Base X n A N s) (hp : Paired (fun v x => (K x).holds (vw N s.heap) v) vs l) :
    Res N s (lV K l) (.ref s.heap.objs.size) { s with heap := s.heap.push { cls := .type "list", data := .seq vs.toArray } } :=
  ⟨lv_of (B.fresh (Nat.le_refl _)) ⟨0, Heap.get?_push_size _ rfl⟩ (paired_mono (vw_le fun _ _ e => Heap.get?_push_of_some _ e) hp), keeps_push⟩
theorem Paired.length {α β : Type} {F : α → β → Prop} : ∀ {l : List α} {r : List β}, Paired F l r → l.length = r.length
  | _, _, .nil => rfl
  | _, _, .cons _ b => congrArg (· + 1) (Paired.length b)
theorem Paired.get {α β : Type} {F : α → β → Prop} : ∀ {l : List α} {r : List β}, Paired F l r → ∀ (i : Nat) (y : β), r[i]? = some y → ∃ x, l[i]? = some x ∧ F x y
  | _, _, .cons a b, 0, y, h => by simp at h; subst h; exact ⟨_, by simp, a⟩
  | _, _, .cons a b, i + 1, y, h => by simpa using Paired.get b i y (by simpa using h)

def isStar : Expr → Bool
  | .Starred _ _ => true
  | _ => false
theorem starEach_cons {e : Expr} {es : List Expr} {env : Env} (h : isStar e = false) : starEach (e :: es) env = (false, eval e env) :: starEach es env := by
  cases e <;> first | rfl | cases h

/-- expressions, one by one -/
abbrev EvAll (X : Cx) (n : Nat) (sc : Scope) (ρ : Rho) {α : Type} (K : α → Val) (es : List Expr) (l : List α) : Prop := Paired (fun e x => isStar e = false ∧ Ev X n sc ρ e (K x)) es l

theorem backTo_cons {pos : Pos} {t : Sem Value} {r : List (Bool × Sem Value)} : backTo pos ((false, t) :: r) = (false, t) :: backTo pos r := rfl
theorem spliced_all {α : Type} {K : α → Val} {es : List Expr} {l : List α} (h : EvAll X n sc ρ K es l) : ∀ {A : Around} {env : Env} {N : List Addr} {s : Shared} {E : Value → Shared → Prop} {pos : Pos}, Pre X n sc ρ A env N s →
    wpAny X.M A (spliced (backTo pos (starEach es env))) (fun vs s' => Paired (fun v x => (K x).holds (vw N s'.heap) v) vs l ∧ Kp s s') E s := by
  induction h with
  | nil => intro A env N s E pos P; exact wpAny_pure ⟨.nil, keeps_refl s⟩
  | cons he _ ih =>
    intro A env N s E pos P
    rw [starEach_cons he.1, backTo_cons]
    refine Calls.spliced_cons (wpAny_mono (he.2.go A env N s E P) (fun v s₁ hv => ?_) fun _ _ e => e)
    refine wpAny_mono (ih (P.keeps hv.2)) (fun vs s₂ hvs => ?_) fun _ _ e => e
    exact ⟨.cons ((K _).mono _ _ _ (keeps_vw hvs.2) hv.1) hvs.1, keeps_trans hv.2 hvs.2⟩

theorem Ev.list {α : Type} {K : α → Val} {es : List Expr} {l : List α} {pos : Pos} (h : EvAll X n sc ρ K es l) (hlen : l.length ≤ 1000) : Ev X n sc ρ (.List es pos) (lV K l) := .mk fun A env N s E P => by
  refine wpAny_List (wpAny_mono (spliced_all h P) (fun vs s₁ hv => ?_) fun _ _ e => e)
  refine ⟨by rw [Paired.length hv.1, sizeLine_eq]; omega, ?_⟩
  have := lv_push (P.base.keeps hv.2) hv.1
  exact ⟨this.1, keeps_trans hv.2 this.2⟩
theorem Ev.nil {α : Type} {K : α → Val} {pos : Pos} : Ev X n sc ρ (.List [] pos) (lV K []) := Ev.list .nil (Nat.zero_le _)

/-- a list's item -/
def isSlice : Expr → Bool
  | .Slice _ _ _ _ => true
  | _ => false
theorem subscripted_plain {slice : Expr} (h : isSlice slice = false) (o i : Value) : subscripted slice false o i = operate [o, i] (getItem o i) := by
  cases slice <;> first | rfl | cases h
theorem Ev.sub {α : Type} {K : α → Val} {e i : Expr} {l : List α} {k : Int} {x : α} {pos : Pos} (he : Ev X n sc ρ e (lV K l)) (hi : Ev X n sc ρ i (iV k)) (h0 : 0 ≤ k) (hx : l[k.toNat]? = some x) (hl : l.length ≤ 2 ^ 62) (hs : isSlice i = false) :
    Ev X n sc ρ (.Subscript e i pos) (K x) := .mk fun A env N s E P => by
  refine Subscript_ (wpAny_mono (he.go A env N s E P) (fun o s₁ ho => ?_) fun _ _ e => e)
  refine wpAny_mono (hi.go A env N s₁ E (P.keeps ho.2)) (fun iv s₂ hiv => ?_) fun _ _ e => e
  obtain ⟨t, rfl⟩ := hiv.1
  obtain ⟨a, vs, rfl, _, hlist, hp⟩ := lv_list ((lV K l).mono _ _ _ (keeps_vw hiv.2) ho.1)
  obtain ⟨v, hv, hvx⟩ := Paired.get hp _ _ hx
  have hlt : k.toNat < l.length := (List.getElem?_eq_some_iff.mp hx).1
  refine tail_any hlist.typeIs slot_list_getitem.lookup (wpAny_getItem_list hlist h0 (by omega) (by simpa using hv) ?_) (subscripted_plain hs _ _)
  exact ⟨hvx, keeps_trans ho.2 hiv.2⟩
end
end Mine
open PySem PySem.W PyProof.Rows
set_option Elab.async false
set_option autoImplicit false
namespace Mine

/-- as Kp, but for the addresses W -/
structure KpB (W : Addr → Prop) (s s' : Shared) : Prop where
  same : ∃ h' tk, s' = { s with heap := h', toks := tk }
  get : ∀ b o, ¬ W b → s.heap.get? b = some o → s'.heap.get? b = some o
  size : s.heap.objs.size ≤ s'.heap.objs.size
theorem KpB.of {W : Addr → Prop} {s s' : Shared} (k : Kp s s') : KpB W s s' :=
  ⟨let ⟨h, t, e, _⟩ := k.keeps; ⟨h, t, e⟩, fun b o _ e => keeps_get k b o e, k.size⟩
set_option linter.unusedVariables false
theorem KpB.trans {W : Addr → Prop} {s s' s'' : Shared} (h : KpB W s s') (h' : KpB W s' s'') : KpB W s s'' := by
  refine ⟨?_, fun b o hb e => h'.get b o hb (h.get b o hb e), Nat.le_trans h.size h'.size⟩
  obtain ⟨h1, t1, rfl⟩ := h.same
  obtain ⟨h2, t2, rfl⟩ := h'.same
  exact ⟨h2, t2, rfl⟩
theorem KpB.mono {W W' : Addr → Prop} {s s' : Shared} (h : KpB W s s') (hw : ∀ b, W b → W' b) : KpB W' s s' := ⟨h.same, fun b o hb e => h.get b o (fun x => hb (hw b x)) e, h.size⟩
theorem KpB.kp {W : Addr → Prop} {s s' : Shared} (h : KpB W s s') (hw : ∀ b, W b → s.heap.objs.size ≤ b) : Kp s s' := by
  refine ⟨?_, h.size⟩
  obtain ⟨h1, t1, rfl⟩ := h.same
  exact ⟨h1, t1, rfl, fun b o e => h.get b o (fun x => absurd (Heap.lt_size e) (Nat.not_lt.mpr (hw b x))) e⟩
theorem KpB.same_but {a : Addr} {s : Shared} {h' : Heap} {tk : Nat} (hs : Heap.SameBut a s.heap h') : KpB (· = a) s { s with heap := h', toks := tk } :=
  ⟨⟨h', tk, rfl⟩, fun b o hb e => (hs.2 b hb).trans e, Nat.le_of_eq hs.1.symm⟩

section
variable {X : Cx} {n : Nat}

/-- a value that can be walked: its items are xs -/
def Itr (X : Cx) (n : Nat) {α : Type} (V : Val) (K : α → Val) (xs : List α) : Prop :=
  ∀ (A : Around) (N : List Addr) (s : Shared) (v : Value) (E : Value → Shared → Prop), Base X n A N s → V.holds (vw N s.heap) v →
    wpAny X.M A (pyIter v) (fun it s₂ => Kp s s₂ ∧ ∃ I fp P St, it = .ref I ∧ s.heap.objs.size ≤ I ∧ I < s₂.heap.objs.size ∧ Walks X.prog X.w A I fp [I] xs.length P St ∧ St 0 s₂.heap ∧
      (∀ b ∈ fp, b = I ∨ (b ∉ N ∧ ∃ o, s.heap.get? b = some o ∧ isData o = true)) ∧ (∀ i u, i < xs.length → P i u → ∃ x, xs[i]? = some x ∧ (K x).holds (vw N s.heap) u)) E s

theorem itr_list {α : Type} {K : α → Val} {xs : List α} : Itr X n (lV K xs) K xs := by
  intro A N s v E B hv
  obtain ⟨a, vs, rfl, ha, hl, hp⟩ := lv_list hv
  have hlt : a < s.heap.objs.size := let ⟨_, ho, _⟩ := hl; Heap.lt_size ho
  refine wpAny_pyIter_list hl ?_
  have hw := Walks.list (prog := X.prog) (w := X.w) B.lev.handled s.heap.objs.size a (Nat.ne_of_lt hlt) vs.toArray
  have hsz : vs.toArray.size = xs.length := by simpa using Paired.length hp
  rw [hsz] at hw
  refine ⟨keeps_push, s.heap.objs.size, [s.heap.objs.size, a], _, _, rfl, Nat.le_refl _, ?_, hw, ⟨⟨_, Heap.get?_push_size _ rfl, rfl, rfl⟩, hl.at fun o e => Heap.get?_push_of_some _ e⟩, ?_, ?_⟩
  · show _ < (s.heap.push _).objs.size; rw [Heap.size_push]; omega
  · intro b hb
    simp only [List.mem_cons, List.not_mem_nil, or_false] at hb
    rcases hb with rfl | rfl
    · exact .inl rfl
    · obtain ⟨o, ho, _, k, hd⟩ := hl
      exact .inr ⟨ha, o, ho, isData_seq hd⟩
  · intro i u _ hu
    have hu' : vs[i]? = some u := by simpa using hu
    have hi : i < xs.length := by rw [← Paired.length hp]; exact (List.getElem?_eq_some_iff.mp hu').1
    obtain ⟨y, hy, hyx⟩ := Paired.get hp i xs[i] (by simp [hi])
    rw [hu'] at hy; cases hy
    exact ⟨_, by simp [hi], hyx⟩

theorem itr_tuple {α : Type} {K : α → Val} {xs : List α} : Itr X n (tV K xs) K xs := by
  intro A N s v E B hv
  obtain ⟨a, vs, k, rfl, ho', hp⟩ := hv
  have ha := (vw_some.mp ho').1
  have hl : s.heap.IsTuple a vs.toArray := ⟨_, vw_get ho', rfl, k, rfl⟩
  have hlt : a < s.heap.objs.size := Heap.lt_size (vw_get ho')
  refine wpAny_pyIter_tuple hl ?_
  have hw := Walks.tuple (prog := X.prog) (w := X.w) B.lev.handled s.heap.objs.size a (Nat.ne_of_lt hlt) vs.toArray
  have hsz : vs.toArray.size = xs.length := by simpa using Paired.length hp
  rw [hsz] at hw
  refine ⟨keeps_push, s.heap.objs.size, [s.heap.objs.size, a], _, _, rfl, Nat.le_refl _, ?_, hw, ⟨⟨_, Heap.get?_push_size _ rfl, rfl, rfl⟩, hl.at fun o e => Heap.get?_push_of_some _ e⟩, ?_, ?_⟩
  · show _ < (s.heap.push _).objs.size; rw [Heap.size_push]; omega
  · intro b hb
    simp only [List.mem_cons, List.not_mem_nil, or_false] at hb
    rcases hb with rfl | rfl
    · exact .inl rfl
    · exact .inr ⟨ha, _, vw_get ho', rfl⟩
  · intro i u _ hu
    have hu' : vs[i]? = some u := by simpa using hu
    have hi : i < xs.length := by rw [← Paired.length hp]; exact (List.getElem?_eq_some_iff.mp hu').1
    obtain ⟨y, hy, hyx⟩ := Paired.get hp i xs[i] (by simp [hi])
    rw [hu'] at hy; cases hy
    exact ⟨_, by simp [hi], hyx⟩

/-- the ints lo, lo + 1, .., m of them -/
def intsFrom (lo : Int) (m : Nat) : List Int := (List.range m).map fun (i : Nat) => lo + i
theorem intsFrom_length {lo : Int} {m : Nat} : (intsFrom lo m).length = m := by simp [intsFrom]
theorem intsFrom_get {lo : Int} {m i : Nat} (h : i < m) : (intsFrom lo m)[i]? = some (lo + i) := by simp [intsFrom, h]

theorem itr_range {lo : Int} {m : Nat} (hlo : -1000 ≤ lo ∧ lo ≤ 1000) (hm : m ≤ 1000) : Itr X n (rV lo (lo + m)) iV (intsFrom lo m) := by
  intro A N s v E B hv
  obtain ⟨r, t, u, x, rfl, hr⟩ := hv
  have hsize : Builtin.Range.rangeSize lo (lo + m) 1 = m := by
    unfold Builtin.Range.rangeSize
    rw [if_pos (by decide)]
    split <;> omega
  refine wpAny_pyIter_range (vw_get hr) ?_ ?_
  · unfold Builtin.Range.small
    rw [hsize]
    simp only [Builtin.Range.rangeFitsLong, Bool.and_eq_true, decide_eq_true_eq, Bool.or_eq_true, beq_iff_eq]
    refine ⟨⟨⟨⟨?_, ?_⟩, ?_⟩, ?_⟩, .inr ?_⟩
    · omega
    · omega
    · omega
    · omega
    · rw [if_pos (by decide)]
      simp only [Bool.and_eq_true, decide_eq_true_eq]
      omega
  rw [hsize]
  have hw := Walks.range (prog := X.prog) (w := X.w) B.lev.handled s.heap.objs.size lo 1 m
  refine ⟨keeps_push, s.heap.objs.size, [s.heap.objs.size], _, _, rfl, Nat.le_refl _, ?_, by rw [intsFrom_length]; exact hw, ?_, ?_, ?_⟩
  · show _ < (s.heap.push _).objs.size; rw [Heap.size_push]; omega
  · have := Heap.get?_push_size (h := s.heap) (o := { cls := .type "range_iterator", data := .fields #[rawInt lo, rawInt m, rawInt 1] }) rfl
    simpa using this
  · intro b hb; left; simpa using hb
  · rintro i u hi ⟨t, rfl⟩
    rw [intsFrom_length] at hi
    exact ⟨lo + i, intsFrom_get hi, t, by simp⟩
end
end Mine
open PySem PySem.W PyProof.Rows
set_option Elab.async false
set_option autoImplicit false
set_option linter.unusedVariables false
namespace Mine
section
variable {X : Cx} {n : Nat} {csc : Scope} {A : Around} {cenv : Env} {own : List Str} {N Nv : List Addr} {s₀ : Shared} {ρ : Rho}

/-- the addresses that a comprehension's own variables live at -/
def isOwn (csc : Scope) (cenv : Env) (own : List Str) (b : Addr) : Prop :=
  b = cenv.locals ∨ ∃ z, z ∈ own ∧ csc.names.lookup z = some .cell ∧ cenv.cells.lookup z = some b

/-- inside a comprehension: s₀ the state ahead of it, own its own names, Nv the addresses that no value may lean on -/
structure CSt (X : Cx) (n : Nat) (csc : Scope) (A : Around) (cenv : Env) (own : List Str) (N : List Addr) (s₀ : Shared) (Nv : List Addr) (ρ : Rho) (s : Shared) : Prop where
  base₀ : Base X n A N s₀
  is : EnvIs csc cenv
  kept : Kp s₀ s
  sub : ∀ a ∈ N, a ∈ Nv
  newN : ∀ a ∈ Nv, a ∈ N ∨ s₀.heap.objs.size ≤ a
  live : ∀ a ∈ Nv, a < s.heap.objs.size
  ns : ∃ m, s.heap.Ns cenv.locals m
  nsNew : s₀.heap.objs.size ≤ cenv.locals
  cell : ∀ z, z ∈ own → csc.names.lookup z = some .cell → ∃ c v, cenv.cells.lookup z = some c ∧ s.heap.IsCell c v ∧ s₀.heap.objs.size ≤ c
  kinds : ∀ z, z ∈ own → csc.names.lookup z = some .local ∨ csc.names.lookup z = some .cell
  apart : ∀ z z' c, z ∈ own → z' ∈ own → csc.names.lookup z = some .cell → csc.names.lookup z' = some .cell → cenv.cells.lookup z = some c → cenv.cells.lookup z' = some c → z = z'
  free : ∀ z V, ρ z = some V → sees csc z = true → z ∉ own → ∃ v, V.holds (vw N s₀.heap) v ∧ BoundTo cenv s₀.heap z v
  mine : ∀ z V, ρ z = some V → sees csc z = true → z ∈ own → ∃ v, V.holds (vw Nv s.heap) v ∧ BoundTo cenv s.heap z v

theorem CSt.keeps {s s' : Shared} (S : CSt X n csc A cenv own N s₀ Nv ρ s) (k : Kp s s') : CSt X n csc A cenv own N s₀ Nv ρ s' where
  base₀ := S.base₀
  is := S.is
  kept := keeps_trans S.kept k
  sub := S.sub
  newN := S.newN
  live := fun a ha => Nat.lt_of_lt_of_le (S.live a ha) k.size
  ns := let ⟨m, h⟩ := S.ns; ⟨m, h.keeps (keeps_get k)⟩
  nsNew := S.nsNew
  cell := fun z hz hk => let ⟨c, v, h1, h2, h3⟩ := S.cell z hz hk; ⟨c, v, h1, h2.keeps (keeps_get k), h3⟩
  kinds := S.kinds
  apart := S.apart
  free := S.free
  mine := fun z V h1 h2 h3 => let ⟨v, hv, hb⟩ := S.mine z V h1 h2 h3; ⟨v, V.mono _ _ _ (keeps_vw k) hv, hb.keeps (keeps_get k)⟩

theorem CSt.view {s : Shared} (S : CSt X n csc A cenv own N s₀ Nv ρ s) : VLe (vw N s₀.heap) (vw Nv s.heap) := fun b o e _ => by
  obtain ⟨h1, h2⟩ := vw_some.mp e
  refine vw_some.mpr ⟨fun hm => ?_, keeps_get S.kept b o h2⟩
  rcases S.newN b hm with h | h
  · exact h1 h
  · exact absurd (Heap.lt_size h2) (Nat.not_lt.mpr h)

theorem CSt.pre {s : Shared} (S : CSt X n csc A cenv own N s₀ Nv ρ s) : Pre X n csc ρ A cenv Nv s where
  base := ⟨S.base₀.lev, S.base₀.gd.keeps (keeps_get S.kept), S.live⟩
  is := S.is
  ok := fun z V hz hs => by
    rw [S.is.eq] at hs
    by_cases ho : z ∈ own
    · exact S.mine z V hz hs ho
    · obtain ⟨v, hv, hb⟩ := S.free z V hz hs ho
      exact ⟨v, V.mono _ _ _ S.view hv, hb.keeps (keeps_get S.kept)⟩

theorem CSt.forget {s : Shared} {x : Str} {V : Val} (S : CSt X n csc A cenv own N s₀ Nv (upd ρ x V) s) (hx : ρ x = none) : CSt X n csc A cenv own N s₀ Nv ρ s where
  base₀ := S.base₀
  is := S.is
  kept := S.kept
  sub := S.sub
  newN := S.newN
  live := S.live
  ns := S.ns
  nsNew := S.nsNew
  cell := S.cell
  kinds := S.kinds
  apart := S.apart
  free := fun z V' hz h2 h3 => S.free z V' (by
    by_cases e : z = x
    · rw [e, hx] at hz; cases hz
    · rw [upd_ne e]; exact hz) h2 h3
  mine := fun z V' hz h2 h3 => S.mine z V' (by
    by_cases e : z = x
    · rw [e, hx] at hz; cases hz
    · rw [upd_ne e]; exact hz) h2 h3

theorem isOwn_new {s : Shared} (S : CSt X n csc A cenv own N s₀ Nv ρ s) {b : Addr} (h : isOwn csc cenv own b) : s₀.heap.objs.size ≤ b := by
  rcases h with rfl | ⟨z, hz, hk, hc⟩
  · exact S.nsNew
  · obtain ⟨c, v, h1, _, h3⟩ := S.cell z hz hk
    rw [hc] at h1; cases h1; exact h3

/-- a change at addresses that no value leans on -/
theorem CSt.change {s s' : Shared} {W : Addr → Prop} (S : CSt X n csc A cenv own N s₀ Nv ρ s) (k : KpB W s s') (hW : ∀ b, W b → b ∈ Nv ∧ s₀.heap.objs.size ≤ b ∧ ¬ isOwn csc cenv own b) : CSt X n csc A cenv own N s₀ Nv ρ s' where
  base₀ := S.base₀
  is := S.is
  kept := by
    refine ⟨?_, Nat.le_trans S.kept.size k.size⟩
    obtain ⟨h1, t1, e1⟩ := S.kept.keeps
    obtain ⟨h2, t2, e2⟩ := k.same
    refine ⟨h2, t2, by rw [e2, e1.1], fun b o e => ?_⟩
    have h3 := k.get b o (fun x => absurd (Heap.lt_size e) (Nat.not_lt.mpr (hW b x).2.1)) (keeps_get S.kept b o e)
    rw [e2] at h3; exact h3
  sub := S.sub
  newN := S.newN
  live := fun a ha => Nat.lt_of_lt_of_le (S.live a ha) k.size
  ns := let ⟨m, h⟩ := S.ns; ⟨m, h.at' fun o e => k.get _ o (fun x => (hW _ x).2.2 (.inl rfl)) e⟩
  nsNew := S.nsNew
  cell := fun z hz hk => let ⟨c, v, h1, ⟨o, ho, hd⟩, h3⟩ := S.cell z hz hk; ⟨c, v, h1, ⟨o, k.get c o (fun x => (hW _ x).2.2 (.inr ⟨z, hz, hk, h1⟩)) ho, hd⟩, h3⟩
  kinds := S.kinds
  apart := S.apart
  free := S.free
  mine := fun z V hz h2 h3 => by
    obtain ⟨v, hv, hb⟩ := S.mine z V hz h2 h3
    refine ⟨v, V.mono _ _ _ (fun b o e _ => ?_) hv, ?_⟩
    · obtain ⟨e1, e2⟩ := vw_some.mp e
      exact vw_some.mpr ⟨e1, k.get b o (fun x => e1 (hW b x).1) e2⟩
    · rcases hb with ⟨hl, m, hn, hm⟩ | ⟨hl, c, hc, o, ho, hd⟩
      · exact .inl ⟨hl, m, hn.at' fun o e => k.get _ o (fun x => (hW _ x).2.2 (.inl rfl)) e, hm⟩
      · refine .inr ⟨hl, c, hc, o, ?_, hd⟩
        by_cases hcell : csc.names.lookup z = some .cell
        · exact k.get c o (fun x => (hW _ x).2.2 (.inr ⟨z, h3, hcell, hc⟩)) ho
        · exfalso
          rw [S.is.kindOf] at hl
          rcases S.kinds z h3 with h | h
          · rw [h] at hl; rcases hl with hl | hl <;> cases hl
          · exact hcell h

theorem CSt.store {s : Shared} {x : Str} {V : Val} {v : Value} {E : Value → Shared → Prop} (S : CSt X n csc A cenv own N s₀ Nv ρ s) (hx : x ∈ own) (hv : V.holds (vw Nv s.heap) v) (hx0 : (x == (".0" : Str)) = false) :
    wpAny X.M A (storeName cenv x v) (fun _ s' => CSt X n csc A cenv own N s₀ Nv (upd ρ x V) s' ∧ KpB (isOwn csc cenv own) s s') E s := by
  have hkf : cenv.scope.kind = .function := by rw [S.is.eq]; exact S.is.kind
  -- one change at an own address that is no value's
  have step : ∀ (a : Addr) (s' : Shared), isOwn csc cenv own a → (∀ o, s.heap.get? a = some o → isData o = false) → KpB (· = a) s s' → (∃ m, s'.heap.Ns cenv.locals m) →
      (∀ z, z ∈ own → csc.names.lookup z = some .cell → ∃ c v, cenv.cells.lookup z = some c ∧ s'.heap.IsCell c v ∧ s₀.heap.objs.size ≤ c) →
      (∀ z u, z ∈ own → z ≠ x → BoundTo cenv s.heap z u → BoundTo cenv s'.heap z u) → BoundTo cenv s'.heap x v →
      CSt X n csc A cenv own N s₀ Nv (upd ρ x V) s' ∧ KpB (isOwn csc cenv own) s s' := by
    intro a s' ha hda k hns hcell hbz hbx
    have hview : VLe (vw Nv s.heap) (vw Nv s'.heap) := fun b o e d => by
      obtain ⟨e1, e2⟩ := vw_some.mp e
      refine vw_some.mpr ⟨e1, k.get b o (fun h => ?_) e2⟩
      subst h; rw [hda o e2] at d; cases d
    refine ⟨⟨S.base₀, S.is, ?_, S.sub, S.newN, fun a ha => Nat.lt_of_lt_of_le (S.live a ha) k.size, hns, S.nsNew, hcell, S.kinds, S.apart, ?_, ?_⟩, k.mono fun b e => e ▸ ha⟩
    · refine ⟨?_, Nat.le_trans S.kept.size k.size⟩
      obtain ⟨h1, t1, e1⟩ := S.kept.keeps
      obtain ⟨h2, t2, e2⟩ := k.same
      refine ⟨h2, t2, by rw [e2, e1.1], fun b o e => ?_⟩
      have h3 := k.get b o (fun h => absurd (Heap.lt_size e) (Nat.not_lt.mpr (h ▸ isOwn_new S ha))) (keeps_get S.kept b o e)
      rw [e2] at h3; exact h3
    · intro z V' hz h2 h3
      refine S.free z V' ?_ h2 h3
      rw [upd_ne (show z ≠ x from fun e => h3 (by rw [e]; exact hx))] at hz; exact hz
    · intro z V' hz h2 h3
      by_cases e : z = x
      · subst e
        rw [upd_eq] at hz; cases hz
        exact ⟨v, V.mono _ _ _ hview hv, hbx⟩
      · rw [upd_ne e] at hz
        obtain ⟨u, hu, hb⟩ := S.mine z V' hz h2 h3
        exact ⟨u, V'.mono _ _ _ hview hu, hbz z u h3 e hb⟩
  rcases S.kinds x hx with hl | hl
  · obtain ⟨m, hn⟩ := S.ns
    refine wpAny_storeName_local (by rw [S.is.kindOf]; exact hl) hn (fun h' hn' hs' => ?_) (by rw [hkf]; rfl)
    refine step cenv.locals _ (.inl rfl) ?_ (KpB.same_but hs') ⟨_, hn'⟩ ?_ ?_ (.inl ⟨by rw [S.is.kindOf]; exact hl, _, hn', by simp⟩)
    · intro o e
      obtain ⟨o', es, ep, ho', hd, _⟩ := hn
      rw [e] at ho'; cases ho'
      unfold isData; rw [hd]
    · intro z hz hk
      obtain ⟨c, u, h1, h2, h3⟩ := S.cell z hz hk
      refine ⟨c, u, h1, h2.sameBut hs' ?_, h3⟩
      rintro rfl
      obtain ⟨o', es, ep, ho', hd, _⟩ := hn
      obtain ⟨o, ho, hd2⟩ := h2
      rw [ho] at ho'; cases ho'; rw [hd] at hd2; cases hd2
    · intro z u hz hzx hb
      rcases hb with ⟨hlz, m', hn2, hm2⟩ | ⟨hlz, c, hc, hv2⟩
      · refine .inl ⟨hlz, _, hn', ?_⟩
        rw [if_neg hzx]
        rw [← hm2]
        obtain ⟨o1, es1, ep1, ho1, hd1, hk1, hf1⟩ := hn
        obtain ⟨o2, es2, ep2, ho2, hd2, hk2, hf2⟩ := hn2
        rw [ho1] at ho2; cases ho2; rw [hd1] at hd2; cases hd2
        rw [← hf1, ← hf2]
      · refine .inr ⟨hlz, c, hc, hv2.sameBut hs' ?_⟩
        rintro rfl
        obtain ⟨o', es, ep, ho', hd, _⟩ := hn
        obtain ⟨o, ho, hd2⟩ := hv2
        rw [ho] at ho'; cases ho'; rw [hd] at hd2; cases hd2
  · obtain ⟨c, u, h1, h2, h3⟩ := S.cell x hx hl
    refine wpAny_storeName_cell hkf (by rw [S.is.kindOf]; exact hl) h1 h2 fun h' hc' hs' => ?_
    have hCc : cenv.locals ≠ c := by
      rintro rfl
      obtain ⟨m, o', es, ep, ho', hd, _⟩ := S.ns
      obtain ⟨o, ho, hd2⟩ := h2
      rw [ho] at ho'; cases ho'; rw [hd] at hd2; cases hd2
    refine step c _ (.inr ⟨x, hx, hl, h1⟩) ?_ (KpB.same_but (tk := s.toks) hs') (let ⟨m, hn⟩ := S.ns; ⟨m, hn.sameBut hs' hCc⟩) ?_ ?_ (.inr ⟨.inl (by rw [S.is.kindOf]; exact hl), c, h1, hc'⟩)
    · intro o e
      obtain ⟨o', ho', hd⟩ := h2
      rw [e] at ho'; cases ho'
      unfold isData; rw [hd]
    · intro z hz hk
      by_cases e : z = x
      · subst e; exact ⟨c, _, h1, hc', h3⟩
      · obtain ⟨c2, u2, g1, g2, g3⟩ := S.cell z hz hk
        exact ⟨c2, u2, g1, g2.sameBut hs' (fun e' => e (S.apart z x c hz hx hk hl (e' ▸ g1) h1)), g3⟩
    · intro z w hz hzx hb
      rcases hb with ⟨hlz, m', hn2, hm2⟩ | ⟨hlz, c2, hc2, hv2⟩
      · exact .inl ⟨hlz, m', hn2.sameBut hs' hCc, hm2⟩
      · refine .inr ⟨hlz, c2, hc2, hv2.sameBut hs' fun e' => hzx ?_⟩
        subst e'
        refine S.apart z x c2 hz hx ?_ hl hc2 h1
        rcases S.kinds z hz with h | h
        · rw [S.is.kindOf, h] at hlz; rcases hlz with h' | h' <;> cases h'
        · exact h

theorem CSt.assign {s : Shared} {x : Str} {px : Pos} {V : Val} {v : Value} {E : Value → Shared → Prop} (S : CSt X n csc A cenv own N s₀ Nv ρ s) (hx : x ∈ own) (hv : V.holds (vw Nv s.heap) v) (hx0 : (x == (".0" : Str)) = false) :
    wpAny X.M A (PySem.assign (.Name x px) cenv v) (fun _ s' => CSt X n csc A cenv own N s₀ Nv (upd ρ x V) s' ∧ KpB (isOwn csc cenv own) s s') E s := wpAny_assign_Name (S.store hx hv hx0)

/-- a comprehension's tests -/
def Tests (X : Cx) (n : Nat) (sc : Scope) (ρ : Rho) (ifs : List Expr) (b : Bool) : Prop :=
  ∀ (A : Around) (env : Env) (N : List Addr) (s : Shared) (E : Value → Shared → Prop), Pre X n sc ρ A env N s →
    wpAny X.M A (forIn ifs true fun c r => if r = true then do let ok ← PySem.isTrue c env (eval c env); pure (ForInStep.yield ok) else pure (ForInStep.yield r)) (fun r s' => r = b ∧ Kp s s') E s
theorem Tests.nil {sc : Scope} : Tests X n sc ρ [] true := fun A env N s E P => wpAny_tests_nil ⟨rfl, keeps_refl s⟩
theorem Tests.one {sc : Scope} {c : Expr} {b : Bool} (h : EvT X n sc ρ c b) : Tests X n sc ρ [c] b := fun A env N s E P => wpAny_tests_one (h.go A env N s E P)

theorem compTurn_last {elt : Expr} {gens : List Comprehension} {scope : Scope} {pos : Pos} {d : Nat} {it acc : Value} {env : Env} {target iter : Expr} {ifs : List Expr}
    (hg : gens[d]? = some ⟨target, iter, ifs, 0⟩) (hlast : gens[d + 1]? = none) :
    compTurn (.ListComp elt gens scope pos) d it acc env = (standAt iter.pos >>= fun _ => pyNext it >>= fun r => match r with
      | none => pure (.done .next)
      | some v => letOwnedTupleGo target it v >>= fun _ => PySem.assign target env v >>= fun _ =>
        (forIn ifs true fun c r => if r = true then do let ok ← PySem.isTrue c env (eval c env); pure (ForInStep.yield ok) else pure (ForInStep.yield r)) >>= fun ok =>
          if ok = true then (do let _ ← call (.builtin "list.append") [acc, ← eval elt env]) >>= fun _ => again (.compLoop (.ListComp elt gens scope pos) d it acc env)
          else again (.compLoop (.ListComp elt gens scope pos) d it acc env)) := by
  unfold compTurn
  simp only [hg, hlast]
  rfl

theorem compTurn_more {elt : Expr} {gens : List Comprehension} {scope : Scope} {pos : Pos} {d : Nat} {it acc : Value} {env : Env} {target iter target' iter' : Expr} {ifs ifs' : List Expr}
    (hg : gens[d]? = some ⟨target, iter, ifs, 0⟩) (hmore : gens[d + 1]? = some ⟨target', iter', ifs', 0⟩) :
    compTurn (.ListComp elt gens scope pos) d it acc env = (standAt iter.pos >>= fun _ => pyNext it >>= fun r => match r with
      | none => pure (.done .next)
      | some v => letOwnedTupleGo target it v >>= fun _ => PySem.assign target env v >>= fun _ =>
        (forIn ifs true fun c r => if r = true then do let ok ← PySem.isTrue c env (eval c env); pure (ForInStep.yield ok) else pure (ForInStep.yield r)) >>= fun ok =>
          if ok = true then eval iter' env >>= fun x => standAt iter'.pos >>= fun _ => foldedSetIterable iter' env x >>= fun x => holding [x] (pyIter x) >>= fun it' =>
            runOwn (.compStart (.ListComp elt gens scope pos) (d + 1) it' acc env) env >>= fun _ => again (.compLoop (.ListComp elt gens scope pos) d it acc env)
          else again (.compLoop (.ListComp elt gens scope pos) d it acc env)) := by
  unfold compTurn
  simp only [hg, hmore]
  rfl

theorem Paired.append {α β : Type} {F : α → β → Prop} : ∀ {l₁ l₂ : List α} {r₁ r₂ : List β}, Paired F l₁ r₁ → Paired F l₂ r₂ → Paired F (l₁ ++ l₂) (r₁ ++ r₂)
  | _, _, _, _, .nil, h => h
  | _, _, _, _, .cons a b, h => .cons a (Paired.append b h)

/-- what a loop of a comprehension may change -/
def Zs (csc : Scope) (cenv : Env) (own : List Str) (I D : Addr) (b : Addr) : Prop := b = I ∨ b = D ∨ isOwn csc cenv own b

/-- the state at a turn's start: i items taken, zs made so far -/
structure Turn (X : Cx) (n : Nat) (csc : Scope) (A : Around) (cenv : Env) (own : List Str) (N : List Addr) (s₀ : Shared) (Nv : List Addr) (ρ : Rho) (I D : Addr) (St : Nat → Heap → Prop) {β : Type} (J : β → Val) (s : Shared)
    (i : Nat) (zs : List β) (s' : Shared) : Prop where
  cst : CSt X n csc A cenv own N s₀ Nv ρ s'
  but : KpB (Zs csc cenv own I D) s s'
  st : St i s'.heap
  acc : ∃ ys : Array Value, s'.heap.PlainList D ys ∧ Paired (fun v y => (J y).holds (vw Nv s'.heap) v) ys.toList zs

/-- the walked object, and what it leans on, lie apart from what a loop changes -/
structure Apart (csc : Scope) (cenv : Env) (own : List Str) (Nv : List Addr) (s₀ : Shared) (I D : Addr) (fp : List Addr) : Prop where
  hI : I ∈ Nv
  hD : D ∈ Nv
  nI : s₀.heap.objs.size ≤ I
  nD : s₀.heap.objs.size ≤ D
  oI : ¬ isOwn csc cenv own I
  oD : ¬ isOwn csc cenv own D
  ID : I ≠ D
  fp : ∀ b ∈ fp, b = I ∨ (b ≠ D ∧ ¬ isOwn csc cenv own b)

theorem vw_but {Nv : List Addr} {W : Addr → Prop} {s s' : Shared} (k : KpB W s s') (hW : ∀ b o, W b → b ∉ Nv → s.heap.get? b = some o → isData o = false) : VLe (vw Nv s.heap) (vw Nv s'.heap) := fun b o e d => by
  obtain ⟨e1, e2⟩ := vw_some.mp e
  exact vw_some.mpr ⟨e1, k.get b o (fun h => by rw [hW b o h e1 e2] at d; cases d) e2⟩

theorem isOwn_data {s : Shared} (S : CSt X n csc A cenv own N s₀ Nv ρ s) {b : Addr} {o : Obj} (h : isOwn csc cenv own b) (e : s.heap.get? b = some o) : isData o = false := by
  rcases h with rfl | ⟨z, hz, hk, hc⟩
  · obtain ⟨m, o', es, ep, ho', hd, _⟩ := S.ns
    rw [e] at ho'; cases ho'
    unfold isData; rw [hd]
  · obtain ⟨c, v, h1, ⟨o', ho', hd⟩, _⟩ := S.cell z hz hk
    rw [hc] at h1; cases h1
    rw [e] at ho'; cases ho'
    unfold isData; rw [hd]

variable {I D : Addr} {fp : List Addr} {St : Nat → Heap → Prop} {P : Nat → Value → Prop} {α β : Type} {K : α → Val} {J : β → Val} {xs : List α} {s : Shared}

/-- one item is drawn -/
theorem Turn.draw {i : Nat} {zs : List β} {s' : Shared} {E : Value → Shared → Prop} {Q : Option Value → Shared → Prop} (T : Turn X n csc A cenv own N s₀ Nv ρ I D St J s i zs s') (W : Walks X.prog X.w A I fp [I] xs.length P St)
    (ap : Apart csc cenv own Nv s₀ I D fp) (hi : i < xs.length)
    (h : ∀ v s'', P i v → Turn X n csc A cenv own N s₀ Nv ρ I D St J s (i + 1) zs s'' → KpB (Zs csc cenv own I D) s' s'' → Q (some v) s'') : wpAny X.M A (pyNext (.ref I)) Q E s' := by
  have h0 : wpAny X.M A (pyNext (.ref I)) (fun r s'' => ∃ v h' tk, r = some v ∧ s'' = { s' with heap := h', toks := tk } ∧ P i v ∧ St (i + 1) h' ∧ ∀ b o, b ∉ [I] → s'.heap.get? b = some o → h'.get? b = some o) E s' :=
    W.item i s' _ E hi T.st fun v h' tk hP hst hk => ⟨v, h', tk, rfl, rfl, hP, hst, hk⟩
  refine wpAny_mono (wpAny_size h0) (fun r s'' hr => ?_) fun _ _ e => e
  obtain ⟨hsz, v, h', tk, rfl, rfl, hP, hst, hk⟩ := hr
  have k : KpB (· = I) s' { s' with heap := h', toks := tk } := ⟨⟨h', tk, rfl⟩, fun b o hb e => hk b o (by simpa using hb) e, hsz⟩
  have k' : KpB (Zs csc cenv own I D) s' { s' with heap := h', toks := tk } := k.mono fun b e => .inl e
  refine h v _ hP ⟨T.cst.change k fun b e => e ▸ ⟨ap.hI, ap.nI, ap.oI⟩, T.but.trans k', hst, ?_⟩ k'
  obtain ⟨ys, hy, hp⟩ := T.acc
  refine ⟨ys, hy.at fun o e => k.get D o (fun e => ap.ID e.symm) e, paired_mono (vw_but k fun b o e hb _ => absurd (e ▸ ap.hI) hb) hp⟩

theorem Turn.keeps {i : Nat} {zs : List β} {s' s'' : Shared} (T : Turn X n csc A cenv own N s₀ Nv ρ I D St J s i zs s') (W : Walks X.prog X.w A I fp [I] xs.length P St) (k : Kp s' s'') : Turn X n csc A cenv own N s₀ Nv ρ I D St J s i zs s'' :=
  ⟨T.cst.keeps k, T.but.trans (KpB.of k), W.frame _ _ _ T.st fun b _ o e => keeps_get k b o e, let ⟨ys, hy, hp⟩ := T.acc; ⟨ys, hy.at fun o e => keeps_get k D o e, paired_mono (keeps_vw k) hp⟩⟩

theorem Turn.assign {i : Nat} {zs : List β} {s' : Shared} {x : Str} {px : Pos} {V : Val} {v : Value} {E : Value → Shared → Prop} (T : Turn X n csc A cenv own N s₀ Nv ρ I D St J s i zs s') (W : Walks X.prog X.w A I fp [I] xs.length P St)
    (ap : Apart csc cenv own Nv s₀ I D fp) (hx : x ∈ own) (hx0 : (x == (".0" : Str)) = false) (hv : V.holds (vw Nv s'.heap) v) :
    wpAny X.M A (PySem.assign (.Name x px) cenv v) (fun _ s'' => Turn X n csc A cenv own N s₀ Nv (upd ρ x V) I D St J s i zs s'' ∧ KpB (Zs csc cenv own I D) s' s'') E s' := by
  refine wpAny_mono (T.cst.assign hx hv hx0) (fun _ s'' hr => ?_) fun _ _ e => e
  obtain ⟨hc, k⟩ := hr
  have k' : KpB (Zs csc cenv own I D) s' s'' := k.mono fun b e => .inr (.inr e)
  refine ⟨⟨hc, T.but.trans k', W.frame _ _ _ T.st fun b hb o e => ?_, ?_⟩, k'⟩
  · refine k.get b o (fun h => ?_) e
    rcases ap.fp b hb with rfl | ⟨_, h'⟩
    · exact ap.oI h
    · exact h' h
  · obtain ⟨ys, hy, hp⟩ := T.acc
    exact ⟨ys, hy.at fun o e => k.get D o ap.oD e, paired_mono (vw_but k fun b o h _ e => isOwn_data T.cst h e) hp⟩

theorem Turn.forget {i : Nat} {zs : List β} {s' : Shared} {x : Str} {V : Val} (T : Turn X n csc A cenv own N s₀ Nv (upd ρ x V) I D St J s i zs s') (hx : ρ x = none) : Turn X n csc A cenv own N s₀ Nv ρ I D St J s i zs s' :=
  ⟨T.cst.forget hx, T.but, T.st, T.acc⟩

theorem Turn.append {i : Nat} {zs : List β} {s' : Shared} {y : β} {v : Value} {E : Value → Shared → Prop} (T : Turn X n csc A cenv own N s₀ Nv ρ I D St J s i zs s') (W : Walks X.prog X.w A I fp [I] xs.length P St)
    (ap : Apart csc cenv own Nv s₀ I D fp) (hv : (J y).holds (vw Nv s'.heap) v) (hlen : zs.length ≤ 1000) :
    wpAny X.M A (call (.builtin "list.append") [.ref D, v]) (fun _ s'' => Turn X n csc A cenv own N s₀ Nv ρ I D St J s i (zs ++ [y]) s'') E s' := by
  obtain ⟨ys, hy, hp⟩ := T.acc
  have hl : ys.size = zs.length := by have := Paired.length hp; simpa using this
  refine wpAny_list_append_plain hy (fun h' hy' hs' => ?_) (by rw [sizeLine_eq]; omega)
  have k : KpB (· = D) s' { s' with heap := h' } := KpB.same_but (tk := s'.toks) hs'
  have hv' : VLe (vw Nv s'.heap) (vw Nv h') := vw_but k fun b o e hb _ => absurd (e ▸ ap.hD) hb
  refine ⟨T.cst.change k fun b e => e ▸ ⟨ap.hD, ap.nD, ap.oD⟩, T.but.trans (k.mono fun b e => .inr (.inl e)), W.frame _ _ _ T.st fun b hb o e => ?_, ys.push v, hy', ?_⟩
  · refine k.get b o (fun h => ?_) e
    rcases ap.fp b hb with rfl | ⟨h', _⟩
    · exact ap.ID h
    · exact h' h
  · rw [Array.toList_push]
    exact Paired.append (paired_mono hv' hp) (.cons ((J y).mono _ _ _ hv' hv) .nil)
end
end Mine
open PySem PySem.W PyProof.Rows
set_option Elab.async false
set_option autoImplicit false
set_option linter.unusedVariables false
namespace Mine
section
variable {X : Cx} {n : Nat} {csc : Scope} {A : Around} {cenv : Env} {own : List Str} {N Nv : List Addr} {s₀ : Shared} {ρ : Rho}
variable {I D : Addr} {fp : List Addr} {St : Nat → Heap → Prop} {P : Nat → Value → Prop} {α β : Type} {K : α → Val} {J : β → Val} {xs : List α} {s : Shared}

theorem take_filter_map {f : α → β} {p : α → Bool} {i : Nat} {a : α} (h : xs[i]? = some a) : ((xs.take (i + 1)).filter p).map f = ((xs.take i).filter p).map f ++ (if p a then [f a] else []) := by
  rw [take_succ_filter p xs i a h, List.map_append]
  split <;> simp

theorem comp_last {elt iter : Expr} {gens : List Comprehension} {scope : Scope} {pos px : Pos} {d : Nat} {x : Str} {ifs : List Expr} {f : α → β} {p : α → Bool} {R : Result → Shared → Prop} {zs : List β}
    (hg : gens[d]? = some ⟨.Name x px, iter, ifs, 0⟩) (hlast : gens[d + 1]? = none) (W : Walks X.prog X.w A I fp [I] xs.length P St) (ap : Apart csc cenv own Nv s₀ I D fp)
    (hst : St 0 s.heap) (C : CSt X n csc A cenv own N s₀ Nv ρ s) (hacc : ∃ ys : Array Value, s.heap.PlainList D ys ∧ Paired (fun v y => (J y).holds (vw Nv s.heap) v) ys.toList zs)
    (hx : x ∈ own) (hx0 : (x == (".0" : Str)) = false) (hρx : ρ x = none)
    (hP : ∀ i u, i < xs.length → P i u → ∃ a, xs[i]? = some a ∧ (K a).holds (vw Nv s.heap) u)
    (htest : ∀ a ∈ xs, Tests X n csc (upd ρ x (K a)) ifs (p a))
    (helt : ∀ a ∈ xs, p a = true → Ev X n csc (upd ρ x (K a)) elt (J (f a)))
    (hlen : zs.length + xs.length ≤ 1000)
    (hR : ∀ s', Turn X n csc A cenv own N s₀ Nv ρ I D (fun _ _ => True) J s 0 (zs ++ (xs.filter p).map f) s' → R (.ok .next) s') :
    codeAny X.M A (.compLoop (.ListComp elt gens scope pos) d (.ref I) (.ref D) cenv) R s := by
  have T0 : Turn X n csc A cenv own N s₀ Nv ρ I D St J s 0 (zs ++ ((xs.take 0).filter p).map f) s := ⟨C, KpB.of (keeps_refl s), hst, by simpa using hacc⟩
  refine codeAny_loop rfl (fun k s' => ∃ i, i ≤ xs.length ∧ k = xs.length - i ∧ Turn X n csc A cenv own N s₀ Nv ρ I D St J s i (zs ++ ((xs.take i).filter p).map f) s') ?_ (xs.length - 0) ⟨0, Nat.zero_le _, rfl, T0⟩
  rintro k s' ⟨i, hi, rfl, T⟩
  show wpAny X.M A ((compTurn (.ListComp elt gens scope pos) d (.ref I) (.ref D) cenv).onRaise (fun x => do noteFrame x cenv; theTreesLotGoes x)) _ _ s'
  refine wpAny_noted ?_
  rw [compTurn_last hg hlast]
  refine wpAny_bind (wpAny_standAt (wpAny_bind ?_))
  have hview : VLe (vw Nv s.heap) (vw Nv s'.heap) := vw_but T.but fun b o hz hb e => by
    rcases hz with rfl | rfl | hz
    · exact absurd ap.hI hb
    · exact absurd ap.hD hb
    · exact isOwn_data C hz e
  by_cases hlt : i < xs.length
  · refine T.draw W ap hlt fun v s₁ hv T₁ k₁ => ?_
    obtain ⟨a, ha, hKa⟩ := hP i v hlt hv
    have ham : a ∈ xs := List.mem_of_getElem? ha
    have hK1 : (K a).holds (vw Nv s₁.heap) v := by
      refine (K a).mono _ _ _ (vw_but k₁ fun b o hz hb e => ?_) ((K a).mono _ _ _ hview hKa)
      rcases hz with rfl | rfl | hz
      · exact absurd ap.hI hb
      · exact absurd ap.hD hb
      · exact isOwn_data T.cst hz e
    show wpAny _ _ (letOwnedTupleGo (.Name x px) (.ref I) v >>= _) _ _ s₁
    refine wpAny_bind (wpAny_of_eq (show letOwnedTupleGo (.Name x px) (.ref I) v = pure () from rfl) ?_)
    refine wpAny_bind (wpAny_mono (T₁.assign W ap hx hx0 hK1) (fun _ s₂ h₂ => ?_) fun _ _ e => e)
    obtain ⟨T₂, k₂⟩ := h₂
    refine wpAny_bind (wpAny_mono (htest a ham A cenv Nv s₂ _ T₂.cst.pre) (fun ok s₃ h₃ => ?_) fun _ _ e => e)
    obtain ⟨rfl, k₃⟩ := h₃
    have T₃ := T₂.keeps W k₃
    cases hp : p a with
    | false =>
      simp only [Bool.false_eq_true, if_false]
      refine wpAny_pure ⟨rfl, xs.length - (i + 1), by omega, i + 1, hlt, rfl, ?_⟩
      rw [take_filter_map ha, hp]
      simpa using T₃.forget hρx
    | true =>
      simp only [if_true]
      refine wpAny_bind (wpAny_bind (wpAny_mono ((helt a ham hp).go A cenv Nv s₃ _ T₃.cst.pre) (fun y s₄ h₄ => ?_) fun _ _ e => e))
      have T₄ := T₃.keeps W h₄.2
      have hcnt : (zs ++ ((xs.take i).filter p).map f).length ≤ 1000 := by
        have h1 : ((xs.take i).filter p).length ≤ (xs.take i).length := List.length_filter_le _ _
        simp only [List.length_append, List.length_map, List.length_take] at h1 ⊢
        omega
      refine wpAny_bind (wpAny_mono (T₄.append W ap h₄.1 hcnt) (fun _ s₅ T₅ => ?_) fun _ _ e => e)
      refine wpAny_pure (wpAny_pure ⟨rfl, xs.length - (i + 1), by omega, i + 1, hlt, rfl, ?_⟩)
      rw [take_filter_map ha, hp, if_pos rfl, ← List.append_assoc]
      exact T₅.forget hρx
  · have hin : i = xs.length := by omega
    subst hin
    have h0 : wpAny X.M A (pyNext (.ref I)) (fun r s'' => r = none ∧ ∃ h' tk, s'' = { s' with heap := h', toks := tk } ∧ ∀ b o, b ∉ [I] → s'.heap.get? b = some o → h'.get? b = some o)
        (notedBy X.M A cenv fun e s' => R (.error e) s') s' := W.done s' _ _ T.st fun h' tk hk => ⟨rfl, h', tk, rfl, hk⟩
    refine wpAny_mono (wpAny_size h0) (fun r s'' hr => ?_) fun _ _ e => e
    obtain ⟨hsz, rfl, h', tk, rfl, hk⟩ := hr
    have k : KpB (· = I) s' { s' with heap := h', toks := tk } := ⟨⟨h', tk, rfl⟩, fun b o hb e => hk b o (by simpa using hb) e, hsz⟩
    refine wpAny_pure (hR _ ⟨T.cst.change k fun b e => e ▸ ⟨ap.hI, ap.nI, ap.oI⟩, T.but.trans (k.mono fun b e => .inl e), trivial, ?_⟩)
    obtain ⟨ys, hy, hp⟩ := T.acc
    rw [List.take_length] at hp
    exact ⟨ys, hy.at fun o e => k.get D o (fun e => ap.ID e.symm) e, paired_mono (vw_but k fun b o e hb _ => absurd (e ▸ ap.hI) hb) hp⟩

theorem codeAny_compStart_at {elt iter target : Expr} {gens : List Comprehension} {scope : Scope} {pos : Pos} {d : Nat} {ifs : List Expr} {it acc : Value} {env : Env} {R : Result → Shared → Prop}
    (hg : gens[d]? = some ⟨target, iter, ifs, 0⟩)
    (h0 : codeAny X.M A (.compLoop (.ListComp elt gens scope pos) d it acc env) R s)
    (h : wpAny X.M A (pyIter it) (fun it' s' => codeAny X.M A (.compLoop (.ListComp elt gens scope pos) d it' acc env) R s') (notedBy X.M A env fun x s' => R (.error x) s') s) :
    codeAny X.M A (.compStart (.ListComp elt gens scope pos) d it acc env) R s := by
  refine codeAny_of_tree ?_
  show wpAny X.M _ ((compStart (.ListComp elt gens scope pos) d it acc env).onRaise (fun x => do noteFrame x env; standAt theWindowsPlace)) _ _ s
  refine wpAny_notedAt ?_
  unfold compStart
  have hc : (clausesOf (.ListComp elt gens scope pos))[d]? = some ⟨target, iter, ifs, 0⟩ := hg
  simp only [hc, Option.elim]
  show wpAny X.M _ (ask >>= _) _ _ s
  refine wpAny_bind (wpAny_askSetting (wpAny_ite ?_))
  split
  · first
      | exact wpAny_bind (wpAny_pure (wpAny_pure (And.intro rfl h0)))
      | exact wpAny_pure (And.intro rfl h0)
  · exact wpAny_bind (wpAny_rule (wpAny_bind (wpAny_standAt (wpAny_bind (wpAny_mono h (fun it' s' h' => wpAny_pure (And.intro rfl h')) fun _ _ x => x)))))

theorem wpAny_runOwn_ok {c : Code} {env : Env} {Q : Flow → Shared → Prop} {E : Value → Shared → Prop} (h : codeAny X.M A c (fun r s' => match r with | .ok f => Q f s' | .error _ => False) s) : wpAny X.M A (runOwn c env) Q E s := by
  unfold runOwn
  refine wpAny_onRaise (wpAny_run (codeAny_mono h fun r s' hr => ?_))
  cases r with
  | ok f => exact hr
  | error e => exact hr.elim

theorem CSt.extend {s s' : Shared} {I₂ : Addr} (S : CSt X n csc A cenv own N s₀ Nv ρ s) (k : Kp s s') (h1 : s.heap.objs.size ≤ I₂) (h2 : I₂ < s'.heap.objs.size) : CSt X n csc A cenv own N s₀ (I₂ :: Nv) ρ s' := by
  have S' := S.keeps k
  refine ⟨S.base₀, S.is, S'.kept, fun a ha => List.mem_cons_of_mem _ (S.sub a ha), fun a ha => ?_, fun a ha => ?_, S'.ns, S.nsNew, S'.cell, S.kinds, S.apart, S.free, fun z V hz hs ho => ?_⟩
  · rcases List.mem_cons.mp ha with rfl | ha
    · exact .inr (Nat.le_trans S.kept.size h1)
    · exact S.newN a ha
  · rcases List.mem_cons.mp ha with rfl | ha
    · exact h2
    · exact S'.live a ha
  · obtain ⟨v, hv, hb⟩ := S.mine z V hz hs ho
    refine ⟨v, V.mono _ _ _ (fun b o e _ => ?_) hv, hb.keeps (keeps_get k)⟩
    obtain ⟨e1, e2⟩ := vw_some.mp e
    refine vw_some.mpr ⟨fun hm => ?_, keeps_get k b o e2⟩
    rcases List.mem_cons.mp hm with rfl | hm
    · exact absurd (Heap.lt_size e2) (Nat.not_lt.mpr h1)
    · exact e1 hm

theorem CSt.shrink {s : Shared} {I₂ : Addr} (S : CSt X n csc A cenv own N s₀ (I₂ :: Nv) ρ s) (hs : ∀ a ∈ N, a ∈ Nv) : CSt X n csc A cenv own N s₀ Nv ρ s :=
  ⟨S.base₀, S.is, S.kept, hs, fun a ha => S.newN a (List.mem_cons_of_mem _ ha), fun a ha => S.live a (List.mem_cons_of_mem _ ha), S.ns, S.nsNew, S.cell, S.kinds, S.apart, S.free,
    fun z V hz h2 ho => let ⟨v, hv, hb⟩ := S.mine z V hz h2 ho; ⟨v, V.mono _ _ _ (vw_le_sub fun a ha => List.mem_cons_of_mem _ ha) hv, hb⟩⟩

theorem isOwn_lt {s : Shared} (S : CSt X n csc A cenv own N s₀ Nv ρ s) {b : Addr} (h : isOwn csc cenv own b) : b < s.heap.objs.size := by
  rcases h with rfl | ⟨z, hz, hk, hc⟩
  · obtain ⟨m, o', es, ep, ho', _⟩ := S.ns
    exact Heap.lt_size ho'
  · obtain ⟨c, v, h1, h2, _⟩ := S.cell z hz hk
    rw [hc] at h1; cases h1; exact h2.lt

theorem take_flatMap {g : α → List β} {i : Nat} {a : α} (h : xs[i]? = some a) : (xs.take (i + 1)).flatMap g = (xs.take i).flatMap g ++ g a := by
  rw [List.take_add_one, h, List.flatMap_append]; simp

theorem comp_more {elt iter iter' : Expr} {gens : List Comprehension} {scope : Scope} {pos px py : Pos} {d : Nat} {x y : Str} {ifs ifs' : List Expr} {γ : Type} {K' : γ → Val} {V' : α → Val} {ys : α → List γ}
    {f : α → γ → β} {p : α → Bool} {q : α → γ → Bool} {R : Result → Shared → Prop} {zs : List β}
    (hg : gens[d]? = some ⟨.Name x px, iter, ifs, 0⟩) (hg' : gens[d + 1]? = some ⟨.Name y py, iter', ifs', 0⟩) (hlast : gens[d + 1 + 1]? = none) (W : Walks X.prog X.w A I fp [I] xs.length P St) (ap : Apart csc cenv own Nv s₀ I D fp)
    (hst : St 0 s.heap) (C : CSt X n csc A cenv own N s₀ Nv ρ s) (hacc : ∃ ys : Array Value, s.heap.PlainList D ys ∧ Paired (fun v y => (J y).holds (vw Nv s.heap) v) ys.toList zs)
    (hx : x ∈ own) (hx0 : (x == (".0" : Str)) = false) (hρx : ρ x = none) (hy : y ∈ own) (hy0 : (y == (".0" : Str)) = false) (hρy : ρ y = none) (hxy : y ≠ x)
    (hP : ∀ i u, i < xs.length → P i u → ∃ a, xs[i]? = some a ∧ (K a).holds (vw Nv s.heap) u)
    (htest : ∀ a ∈ xs, Tests X n csc (upd ρ x (K a)) ifs (p a))
    (hiter : ∀ a ∈ xs, p a = true → Ev X n csc (upd ρ x (K a)) iter' (V' a))
    (hitr : ∀ a ∈ xs, p a = true → Itr X n (V' a) K' (ys a))
    (htest' : ∀ a ∈ xs, p a = true → ∀ b ∈ ys a, Tests X n csc (upd (upd ρ x (K a)) y (K' b)) ifs' (q a b))
    (helt : ∀ a ∈ xs, p a = true → ∀ b ∈ ys a, q a b = true → Ev X n csc (upd (upd ρ x (K a)) y (K' b)) elt (J (f a b)))
    (hlen : ∀ i, i ≤ xs.length → (zs ++ (xs.take i).flatMap fun a => if p a then ((ys a).filter (q a)).map (f a) else []).length ≤ 500) (hlen' : ∀ a ∈ xs, (ys a).length ≤ 500)
    (hs : ∀ v, foldedSetIterable iter' cenv v = pure v)
    (hR : ∀ s', Turn X n csc A cenv own N s₀ Nv ρ I D (fun _ _ => True) J s 0 (zs ++ xs.flatMap fun a => if p a then ((ys a).filter (q a)).map (f a) else []) s' → R (.ok .next) s') :
    codeAny X.M A (.compLoop (.ListComp elt gens scope pos) d (.ref I) (.ref D) cenv) R s := by
  let g : α → List β := fun a => if p a then ((ys a).filter (q a)).map (f a) else []
  have T0 : Turn X n csc A cenv own N s₀ Nv ρ I D St J s 0 (zs ++ (xs.take 0).flatMap g) s := ⟨C, KpB.of (keeps_refl s), hst, by simpa using hacc⟩
  refine codeAny_loop rfl (fun k s' => ∃ i, i ≤ xs.length ∧ k = xs.length - i ∧ Turn X n csc A cenv own N s₀ Nv ρ I D St J s i (zs ++ (xs.take i).flatMap g) s') ?_ (xs.length - 0) ⟨0, Nat.zero_le _, rfl, T0⟩
  rintro k s' ⟨i, hi, rfl, T⟩
  show wpAny X.M A ((compTurn (.ListComp elt gens scope pos) d (.ref I) (.ref D) cenv).onRaise (fun x => do noteFrame x cenv; theTreesLotGoes x)) _ _ s'
  refine wpAny_noted ?_
  rw [compTurn_more hg hg']
  refine wpAny_bind (wpAny_standAt (wpAny_bind ?_))
  have hview : VLe (vw Nv s.heap) (vw Nv s'.heap) := vw_but T.but fun b o hz hb e => by
    rcases hz with rfl | rfl | hz
    · exact absurd ap.hI hb
    · exact absurd ap.hD hb
    · exact isOwn_data C hz e
  by_cases hlt : i < xs.length
  · refine T.draw W ap hlt fun v s₁ hv T₁ k₁ => ?_
    obtain ⟨a, ha, hKa⟩ := hP i v hlt hv
    have ham : a ∈ xs := List.mem_of_getElem? ha
    have hK1 : (K a).holds (vw Nv s₁.heap) v := by
      refine (K a).mono _ _ _ (vw_but k₁ fun b o hz hb e => ?_) ((K a).mono _ _ _ hview hKa)
      rcases hz with rfl | rfl | hz
      · exact absurd ap.hI hb
      · exact absurd ap.hD hb
      · exact isOwn_data T.cst hz e
    show wpAny _ _ (letOwnedTupleGo (.Name x px) (.ref I) v >>= _) _ _ s₁
    refine wpAny_bind (wpAny_of_eq (show letOwnedTupleGo (.Name x px) (.ref I) v = pure () from rfl) ?_)
    refine wpAny_bind (wpAny_mono (T₁.assign W ap hx hx0 hK1) (fun _ s₂ h₂ => ?_) fun _ _ e => e)
    obtain ⟨T₂, k₂⟩ := h₂
    refine wpAny_bind (wpAny_mono (htest a ham A cenv Nv s₂ _ T₂.cst.pre) (fun ok s₃ h₃ => ?_) fun _ _ e => e)
    obtain ⟨rfl, k₃⟩ := h₃
    have T₃ := T₂.keeps W k₃
    cases hp : p a with
    | false =>
      simp only [Bool.false_eq_true, if_false]
      refine wpAny_pure ⟨rfl, xs.length - (i + 1), by omega, i + 1, hlt, rfl, ?_⟩
      rw [take_flatMap ha, show g a = [] by simp [g, hp], List.append_nil]
      exact T₃.forget hρx
    | true =>
      simp only [if_true]
      refine wpAny_bind (wpAny_mono ((hiter a ham hp).go A cenv Nv s₃ _ T₃.cst.pre) (fun xv s₄ h₄ => ?_) fun _ _ e => e)
      have T₄ := T₃.keeps W h₄.2
      refine wpAny_bind (wpAny_standAt (wpAny_bind (wpAny_of_eq (hs xv) (wpAny_bind (wpAny_holding ?_)))))
      refine wpAny_mono (hitr a ham hp A Nv s₄ xv _ T₄.cst.pre.base h₄.1) (fun it s₅ h₅ => ?_) fun _ _ e => e
      obtain ⟨k₅, I₂, fp₂, P₂, St₂, rfl, hI1, hI2, W₂, hst₂, hfp₂, hP₂⟩ := h₅
      have C₅ := T₄.cst.extend k₅ hI1 hI2
      have ap₂ : Apart csc cenv own (I₂ :: Nv) s₀ I₂ D fp₂ := by
        refine ⟨List.mem_cons_self, List.mem_cons_of_mem _ ap.hD, Nat.le_trans T₄.cst.kept.size hI1, ap.nD, fun h => ?_, ap.oD, ?_, fun b hb => ?_⟩
        · exact absurd (isOwn_lt T₄.cst h) (Nat.not_lt.mpr hI1)
        · rintro rfl; exact absurd (T₄.cst.live _ ap.hD) (Nat.not_lt.mpr hI1)
        · rcases hfp₂ b hb with h | ⟨h1, o, h2, h3⟩
          · exact .inl h
          · refine .inr ⟨fun e => h1 (e ▸ ap.hD), fun h => ?_⟩
            rw [isOwn_data T₄.cst h h2] at h3; cases h3
      have hacc₅ : ∃ ys : Array Value, s₅.heap.PlainList D ys ∧ Paired (fun v y => (J y).holds (vw (I₂ :: Nv) s₅.heap) v) ys.toList (zs ++ (xs.take i).flatMap g) := by
        obtain ⟨ys, hy, hpp⟩ := T₄.acc
        refine ⟨ys, hy.at fun o e => keeps_get k₅ D o e, paired_mono (fun b o e _ => ?_) hpp⟩
        obtain ⟨e1, e2⟩ := vw_some.mp e
        refine vw_some.mpr ⟨fun hm => ?_, keeps_get k₅ b o e2⟩
        rcases List.mem_cons.mp hm with rfl | hm
        · exact absurd (Heap.lt_size e2) (Nat.not_lt.mpr hI1)
        · exact e1 hm
      have inner : codeAny X.M A (.compLoop (.ListComp elt gens scope pos) (d + 1) (.ref I₂) (.ref D) cenv)
          (fun r s₆ => match r with | .ok _ => Turn X n csc A cenv own N s₀ (I₂ :: Nv) (upd ρ x (K a)) I₂ D (fun _ _ => True) J s₅ 0 ((zs ++ (xs.take i).flatMap g) ++ ((ys a).filter (q a)).map (f a)) s₆ | .error _ => False) s₅ := by
        refine comp_last (zs := zs ++ (xs.take i).flatMap g) (p := q a) (f := f a) (K := K') hg' hlast W₂ ap₂ hst₂ C₅ hacc₅ hy hy0 (by rw [upd_ne hxy]; exact hρy) (fun j u hj hu => ?_) (htest' a ham hp) (helt a ham hp) ?_ fun s₆ T₆ => T₆
        · obtain ⟨b, hb, hbu⟩ := hP₂ j u hj hu
          refine ⟨b, hb, (K' b).mono _ _ _ (fun b o e _ => ?_) hbu⟩
          obtain ⟨e1, e2⟩ := vw_some.mp e
          refine vw_some.mpr ⟨fun hm => ?_, keeps_get k₅ b o e2⟩
          rcases List.mem_cons.mp hm with rfl | hm
          · exact absurd (Heap.lt_size e2) (Nat.not_lt.mpr hI1)
          · exact e1 hm
        · have h1 := hlen i hi
          have h2 := hlen' a ham
          exact Nat.le_trans (Nat.add_le_add h1 h2) (by decide)
      refine wpAny_bind (wpAny_runOwn_ok (codeAny_mono (codeAny_compStart_at hg' inner (W₂.self 0 _ _ _ hst₂ inner)) fun r s₆ h₆ => ?_))
      cases r with
      | error e => exact h₆
      | ok fl =>
        have T₆ : Turn X n csc A cenv own N s₀ (I₂ :: Nv) (upd ρ x (K a)) I₂ D (fun _ _ => True) J s₅ 0 ((zs ++ (xs.take i).flatMap g) ++ ((ys a).filter (q a)).map (f a)) s₆ := h₆
        have kk : KpB (Zs csc cenv own I D) s₄ s₆ := by
          refine ⟨?_, fun b o hb e => ?_, Nat.le_trans k₅.size T₆.but.size⟩
          · obtain ⟨h1, t1, e1, _⟩ := k₅.keeps
            obtain ⟨h2, t2, e2⟩ := T₆.but.same
            exact ⟨h2, t2, by rw [e2, e1]⟩
          · refine T₆.but.get b o (fun h => ?_) (keeps_get k₅ b o e)
            rcases h with rfl | rfl | h
            · exact absurd (Heap.lt_size e) (Nat.not_lt.mpr hI1)
            · exact hb (.inr (.inl rfl))
            · exact hb (.inr (.inr h))
        refine wpAny_pure ⟨rfl, xs.length - (i + 1), by omega, i + 1, hlt, rfl, ?_⟩
        rw [take_flatMap ha, show g a = ((ys a).filter (q a)).map (f a) by simp [g, hp], ← List.append_assoc]
        refine Turn.forget (x := x) (V := K a) ⟨T₆.cst.shrink T.cst.sub, T₄.but.trans kk, W.frame _ _ _ T₄.st fun b hb o e => ?_, ?_⟩ hρx
        · refine T₆.but.get b o (fun h => ?_) (keeps_get k₅ b o e)
          rcases h with rfl | rfl | h
          · exact absurd (Heap.lt_size e) (Nat.not_lt.mpr hI1)
          · rcases ap.fp _ hb with h | ⟨h, _⟩
            · exact ap.ID h.symm
            · exact h rfl
          · rcases ap.fp _ hb with h' | ⟨_, h'⟩
            · exact ap.oI (h' ▸ h)
            · exact h' h
        · obtain ⟨ys', hy', hp'⟩ := T₆.acc
          exact ⟨ys', hy', paired_mono (vw_le_sub fun a ha => List.mem_cons_of_mem _ ha) hp'⟩
  · have hin : i = xs.length := by omega
    subst hin
    have h0 : wpAny X.M A (pyNext (.ref I)) (fun r s'' => r = none ∧ ∃ h' tk, s'' = { s' with heap := h', toks := tk } ∧ ∀ b o, b ∉ [I] → s'.heap.get? b = some o → h'.get? b = some o)
        (notedBy X.M A cenv fun e s' => R (.error e) s') s' := W.done s' _ _ T.st fun h' tk hk => ⟨rfl, h', tk, rfl, hk⟩
    refine wpAny_mono (wpAny_size h0) (fun r s'' hr => ?_) fun _ _ e => e
    obtain ⟨hsz, rfl, h', tk, rfl, hk⟩ := hr
    have k : KpB (· = I) s' { s' with heap := h', toks := tk } := ⟨⟨h', tk, rfl⟩, fun b o hb e => hk b o (by simpa using hb) e, hsz⟩
    refine wpAny_pure (hR _ ⟨T.cst.change k fun b e => e ▸ ⟨ap.hI, ap.nI, ap.oI⟩, T.but.trans (k.mono fun b e => .inl e), trivial, ?_⟩)
    obtain ⟨ys, hy, hp⟩ := T.acc
    rw [List.take_length] at hp
    exact ⟨ys, hy.at fun o e => k.get D o (fun e => ap.ID e.symm) e, paired_mono (vw_but k fun b o e hb _ => absurd (e ▸ ap.hI) hb) hp⟩
end
end Mine
open PySem PySem.W PyProof.Rows
set_option Elab.async false
set_option autoImplicit false
set_option linter.unusedVariables false
namespace Mine

/-! names and cells of a comprehension -/
def relab (sc scope : Scope) : Scope :=
  { scope with names := scope.names.map fun (n, k) => if (k == .free && sc.names.lookup n == some .cell) then (n, .cell) else (n, k) }
theorem relabel_eq {sc scope : Scope} {env : Env} (I : EnvIs sc env) : relabel scope env = relab sc scope := by
  unfold relabel relab
  have hk : (env.scope.kind == ScopeKind.function) = true := by rw [I.eq, I.kind]; rfl
  simp only [hk, I.kindOf, Bool.and_true]

/-- the kind that a comprehension's name gets -/
def kindIn (sc : Scope) (n : Str) (k : NameKind) : NameKind := if (k == .free && sc.names.lookup n == some .cell) then .cell else k
theorem lookup_relab {sc scope : Scope} (z : Str) : (relab sc scope).names.lookup z = (scope.names.lookup z).map (kindIn sc z) := by
  unfold relab
  show List.lookup z (scope.names.map _) = _
  induction scope.names with
  | nil => rfl
  | cons a r ih =>
    obtain ⟨m, k⟩ := a
    have e : (if (k == NameKind.free && sc.names.lookup m == some .cell) = true then (m, NameKind.cell) else (m, k)) = (m, kindIn sc m k) := by unfold kindIn; split <;> rfl
    rw [List.map_cons]
    show List.lookup z ((if (k == NameKind.free && sc.names.lookup m == some .cell) = true then (m, NameKind.cell) else (m, k)) :: _) = _
    rw [e, List.lookup_cons, List.lookup_cons]
    cases hz : z == m with
    | true => simp [beq_iff_eq.mp hz]
    | false => simpa using ih

def closL (env : Env) : List (Str × NameKind) → List (Str × Addr) → List (Str × Addr)
  | [], acc => acc
  | (z, k) :: r, acc => if k == .free then closL env r ((z, (env.cells.lookup z).getD 0) :: acc) else closL env r acc
theorem closL_mem {env : Env} : ∀ (names : List (Str × NameKind)) (acc : List (Str × Addr)) (z : Str) (c : Addr), (z, c) ∈ closL env names acc → (z, c) ∈ acc ∨ c = (env.cells.lookup z).getD 0
  | [], acc, z, c, h => .inl h
  | (m, k) :: r, acc, z, c, h => by
    unfold closL at h
    split at h
    · rcases closL_mem r _ z c h with h | h
      · rcases List.mem_cons.mp h with e | h
        · cases e; exact .inr rfl
        · exact .inl h
      · exact .inr h
    · exact closL_mem r acc z c h
theorem closL_acc {env : Env} : ∀ (names : List (Str × NameKind)) (acc : List (Str × Addr)) (p : Str × Addr), p ∈ acc → p ∈ closL env names acc
  | [], acc, p, h => h
  | (m, k) :: r, acc, p, h => by
    unfold closL
    split
    · exact closL_acc r _ p (List.mem_cons_of_mem _ h)
    · exact closL_acc r acc p h
theorem closL_has {env : Env} : ∀ (names : List (Str × NameKind)) (acc : List (Str × Addr)) (z : Str), (z, NameKind.free) ∈ names → (z, (env.cells.lookup z).getD 0) ∈ closL env names acc
  | (m, k) :: r, acc, z, h => by
    unfold closL
    rcases List.mem_cons.mp h with e | h
    · cases e
      rw [if_pos (by decide)]
      exact closL_acc r _ _ List.mem_cons_self
    · split
      · exact closL_has r _ z h
      · exact closL_has r acc z h
theorem lookup_of_all {z : Str} {c : Addr} : ∀ {l : List (Str × Addr)}, (z, c) ∈ l → (∀ c', (z, c') ∈ l → c' = c) → l.lookup z = some c
  | (m, c') :: r, h, hall => by
    rw [List.lookup_cons]
    cases hz : z == m with
    | true =>
      have e := beq_iff_eq.mp hz
      subst e
      rw [hall c' List.mem_cons_self]
    | false =>
      refine lookup_of_all ?_ fun c'' hc => hall c'' (List.mem_cons_of_mem _ hc)
      rcases List.mem_cons.mp h with e | h
      · cases e; simp at hz
      · exact h
theorem closL_lookup {env : Env} {names : List (Str × NameKind)} {z : Str} (h : (z, NameKind.free) ∈ names) : (closL env names []).lookup z = some ((env.cells.lookup z).getD 0) :=
  lookup_of_all (closL_has names [] z h) fun c' hc => (closL_mem names [] z c' hc).resolve_left (by simp)

theorem closureFor_eq {scope : Scope} {env : Env} (h : ∀ z, (z, NameKind.free) ∈ scope.names → ∃ c, env.cells.lookup z = some c) : closureFor scope env = pure (closL env scope.names []) := by
  have key : ∀ (f : Str × NameKind → List (Str × Addr) → Sem (ForInStep (List (Str × Addr)))), (∀ m k r, f (m, k) r = if (k == NameKind.free) = true then (do let a ← cellOf env m; pure (ForInStep.yield ((m, a) :: r))) else pure (ForInStep.yield r)) →
      ∀ (names : List (Str × NameKind)) (acc : List (Str × Addr)), (∀ z, (z, NameKind.free) ∈ names → ∃ c, env.cells.lookup z = some c) → forIn names acc f = pure (closL env names acc) := by
    intro f hf names
    induction names with
    | nil => intro acc _; rfl
    | cons a r ih =>
      intro acc hh
      obtain ⟨m, k⟩ := a
      rw [List.forIn_cons, hf]
      unfold closL
      cases hk : (k == NameKind.free) with
      | true =>
        obtain ⟨c, hc⟩ := hh m (by rw [← eq_of_beq hk]; exact List.mem_cons_self)
        have e : cellOf env m = pure c := by unfold cellOf; rw [hc]
        rw [if_pos rfl, if_pos rfl, e, hc]
        exact ih _ fun z hz => hh z (List.mem_cons_of_mem _ hz)
      | false =>
        rw [if_neg Bool.false_ne_true, if_neg Bool.false_ne_true]
        exact ih _ fun z hz => hh z (List.mem_cons_of_mem _ hz)
  unfold closureFor
  show (forIn scope.names [] _ >>= _) = _
  rw [key _ (fun m k r => rfl) scope.names [] h]
  rfl

theorem cellsFrom_append : ∀ (names : List (Str × NameKind)) (n : Nat) (acc : List (Str × Addr)), cellsFrom n names acc = cellsFrom n names [] ++ acc
  | [], _, _ => rfl
  | (z, k) :: r, n, acc => by
    unfold cellsFrom
    split
    · rw [cellsFrom_append r (n + 1) ((z, n) :: acc), cellsFrom_append r (n + 1) [(z, n)], List.append_assoc]; rfl
    · exact cellsFrom_append r n acc
theorem cellsFrom_mem : ∀ (names : List (Str × NameKind)) (n : Nat) (z : Str) (c : Addr), (z, c) ∈ cellsFrom n names [] → (z, NameKind.cell) ∈ names
  | (m, k) :: r, n, z, c, h => by
    unfold cellsFrom at h
    split at h
    · rename_i hk
      rw [cellsFrom_append] at h
      rcases List.mem_append.mp h with h | h
      · exact List.mem_cons_of_mem _ (cellsFrom_mem r _ z c h)
      · rcases List.mem_cons.mp h with e | h
        · cases e; rw [eq_of_beq hk]; exact List.mem_cons_self
        · cases h
    · exact List.mem_cons_of_mem _ (cellsFrom_mem r _ z c h)
theorem cellsFrom_has : ∀ (names : List (Str × NameKind)) (n : Nat) (z : Str), (z, NameKind.cell) ∈ names → ∃ c, (z, c) ∈ cellsFrom n names []
  | (m, k) :: r, n, z, h => by
    unfold cellsFrom
    split
    · rw [cellsFrom_append]
      rcases List.mem_cons.mp h with e | h
      · cases e; exact ⟨n, List.mem_append_right _ List.mem_cons_self⟩
      · obtain ⟨c, hc⟩ := cellsFrom_has r (n + 1) z h
        exact ⟨c, List.mem_append_left _ hc⟩
    · rename_i hk
      rcases List.mem_cons.mp h with e | h
      · cases e; exact absurd (by decide) hk
      · exact cellsFrom_has r n z h
theorem lookup_append {z : Str} : ∀ (l r : List (Str × Addr)), (l ++ r).lookup z = match l.lookup z with | some c => some c | none => r.lookup z
  | [], r => rfl
  | (m, c) :: l, r => by
    rw [List.cons_append, List.lookup_cons, List.lookup_cons]
    cases z == m with
    | true => rfl
    | false => exact lookup_append l r
theorem lookup_none {z : Str} : ∀ {l : List (Str × Addr)}, (∀ c, (z, c) ∉ l) → l.lookup z = none
  | [], _ => rfl
  | (m, c) :: l, h => by
    rw [List.lookup_cons]
    cases hz : z == m with
    | true => exact absurd (by rw [beq_iff_eq.mp hz]; exact List.mem_cons_self) (h c)
    | false => exact lookup_none fun c' hc => h c' (List.mem_cons_of_mem _ hc)
theorem lookup_some {z : Str} : ∀ {l : List (Str × Addr)} {c : Addr}, (z, c) ∈ l → ∃ c', l.lookup z = some c'
  | (m, c') :: l, c, h => by
    rw [List.lookup_cons]
    cases hz : z == m with
    | true => exact ⟨c', rfl⟩
    | false =>
      rcases List.mem_cons.mp h with e | h
      · cases e; simp at hz
      · exact lookup_some h
theorem mem_lookup_kind {z : Str} {k : NameKind} : ∀ {l : List (Str × NameKind)}, l.lookup z = some k → (z, k) ∈ l
  | (m, k') :: l, h => by
    rw [List.lookup_cons] at h
    cases hz : z == m with
    | true => rw [hz] at h; cases h; rw [beq_iff_eq.mp hz]; exact List.mem_cons_self
    | false => rw [hz] at h; exact List.mem_cons_of_mem _ (mem_lookup_kind h)
theorem lookup_of_nodup {z : Str} {k : NameKind} : ∀ {l : List (Str × NameKind)}, (l.map (·.1)).Nodup → (z, k) ∈ l → l.lookup z = some k
  | (m, k') :: l, hn, h => by
    rw [List.map_cons, List.nodup_cons] at hn
    rw [List.lookup_cons]
    rcases List.mem_cons.mp h with e | h
    · cases e; simp
    · cases hz : z == m with
      | true => exact absurd (by rw [← beq_iff_eq.mp hz]; exact List.mem_map.mpr ⟨_, h, rfl⟩) hn.1
      | false => exact lookup_of_nodup hn.2 h
end Mine
open PySem PySem.W PyProof.Rows
set_option Elab.async false
set_option autoImplicit false
set_option linter.unusedVariables false
namespace Mine
def compOk (sc scope : Scope) (own : List Str) : Bool :=
  scope.kind == .function && decide ((scope.names.map (·.1)).Nodup) &&
  (scope.names.all fun (z, k) => match k with
    | .local => own.contains z || z == ".0"
    | .cell => own.contains z
    | .free => (sc.names.lookup z == some .cell || sc.names.lookup z == some .free) && !own.contains z
    | _ => !own.contains z) &&
  (own.all fun z => z != ".0" && (scope.names.lookup z == some .local || scope.names.lookup z == some .cell))

structure CompOk (sc scope : Scope) (own : List Str) : Prop where
  kind : scope.kind = .function
  nodup : (scope.names.map (·.1)).Nodup
  loc : ∀ z, (z, NameKind.local) ∈ scope.names → z ∈ own ∨ z = ".0"
  cell : ∀ z, (z, NameKind.cell) ∈ scope.names → z ∈ own
  free : ∀ z, (z, NameKind.free) ∈ scope.names → (sc.names.lookup z = some .cell ∨ sc.names.lookup z = some .free) ∧ z ∉ own
  own : ∀ z, z ∈ own → z ≠ ".0" ∧ (scope.names.lookup z = some .local ∨ scope.names.lookup z = some .cell)
theorem CompOk.of {sc scope : Scope} {own : List Str} (h : compOk sc scope own = true) : CompOk sc scope own := by
  unfold compOk at h
  simp only [Bool.and_eq_true, decide_eq_true_eq, List.all_eq_true, beq_iff_eq, Bool.or_eq_true, bne_iff_ne] at h
  obtain ⟨⟨⟨h1, h2⟩, h3⟩, h4⟩ := h
  refine ⟨h1, h2, fun z hz => ?_, fun z hz => ?_, fun z hz => ?_, fun z hz => h4 z hz⟩
  · simpa using h3 (z, .local) hz
  · simpa using h3 (z, .cell) hz
  · simpa using h3 (z, .free) hz

def hideL (own : List Str) (ρ : Rho) : Rho := fun z => if z ∈ own then none else ρ z
theorem hideL_own {own : List Str} {ρ : Rho} {z : Str} (h : z ∈ own) : hideL own ρ z = none := if_pos h
theorem hideL_ne {own : List Str} {ρ : Rho} {z : Str} (h : z ∉ own) : hideL own ρ z = ρ z := if_neg h

section
variable {X : Cx} {n : Nat}

/-- a comprehension's own environment -/
def cEnv (sc scope : Scope) (env : Env) (L : Addr) : Env :=
  { scope := relab sc scope, locals := L, globals := env.globals, cells := cellsFrom (L + 1) scope.names (closL env scope.names []), qual := env.qual, func := none, code := env.code, frame := env.frame, builtins := env.builtins }

theorem wpAny_newCompEnv {A : Around} {E : Value → Shared → Prop} {s : Shared} {sc scope : Scope} {env : Env} {Q : Env → Shared → Prop} {cl : List (Str × Addr)}
    (h : Q { scope := scope, locals := s.heap.objs.size, globals := env.globals, cells := cellsFrom (s.heap.objs.size + 1) scope.names cl, qual := env.qual, func := none, code := env.code, frame := env.frame, builtins := env.builtins }
      { s with heap := pushCells (s.heap.push { cls := .type "dict", data := .dict #[] }) scope.names }) :
    wpAny X.M A (newFunctionEnv scope env.globals cl [] env.qual none .none (some env)) Q E s := by
  simp only [newFunctionEnv, Option.isSome_some, if_true]
  refine wpAny_bind (wpAny_alloc ?_)
  refine wpAny_bind (wpAny_layCells _ (fun name kind cells => by cases hkc : kind == NameKind.cell <;> simp) _ _ _ _ ?_)
  have e : (s.heap.push { cls := .type "dict", data := .dict #[] }).objs.size = s.heap.objs.size + 1 := Heap.size_push ..
  refine wpAny_bind ?_
  rw [List.forIn_nil]
  refine wpAny_pure (wpAny_pure ?_)
  show Q { scope := scope, locals := s.heap.objs.size, globals := env.globals, cells := cellsFrom (s.heap.push { cls := .type "dict", data := .dict #[] }).objs.size scope.names cl, qual := env.qual, func := none, code := env.code, frame := env.frame, builtins := env.builtins } _
  rw [e]; exact h

theorem pushCells_size : ∀ (names : List (Str × NameKind)) (h : Heap), h.objs.size ≤ (pushCells h names).objs.size
  | [], h => Nat.le_refl _
  | (_, kind) :: r, h => by
    unfold pushCells
    split
    · exact Nat.le_trans (by rw [Heap.size_push]; omega) (pushCells_size r _)
    · exact pushCells_size r h

theorem cEnv_cell {sc scope : Scope} {own : List Str} {env : Env} {L : Addr} {z : Str} (ok : CompOk sc scope own) (hz : (z, NameKind.cell) ∈ scope.names) :
    ∃ c, (cEnv sc scope env L).cells.lookup z = some c ∧ (z, c) ∈ cellsFrom (L + 1) scope.names [] := by
  obtain ⟨c, hc⟩ := cellsFrom_has scope.names (L + 1) z hz
  obtain ⟨c', hc'⟩ := lookup_some hc
  refine ⟨c', ?_, PySem.mem_of_lookup hc'⟩
  show List.lookup z (cellsFrom (L + 1) scope.names (closL env scope.names [])) = _
  rw [cellsFrom_append, lookup_append, hc']
theorem cEnv_free {sc scope : Scope} {own : List Str} {env : Env} {L : Addr} {z : Str} {c : Addr} (ok : CompOk sc scope own) (hz : (z, NameKind.free) ∈ scope.names) (hc : env.cells.lookup z = some c) :
    (cEnv sc scope env L).cells.lookup z = some c := by
  show List.lookup z (cellsFrom (L + 1) scope.names (closL env scope.names [])) = _
  rw [cellsFrom_append, lookup_append, lookup_none (l := cellsFrom (L + 1) scope.names []), closL_lookup hz, hc]
  · rfl
  · intro c' hc'
    have h1 := lookup_of_nodup ok.nodup (cellsFrom_mem _ _ _ _ hc')
    rw [lookup_of_nodup ok.nodup hz] at h1; cases h1

theorem cEnv_is {sc scope : Scope} {own : List Str} {env : Env} {L : Addr} (ok : CompOk sc scope own) (I : EnvIs sc env) : EnvIs (relab sc scope) (cEnv sc scope env L) where
  eq := rfl
  kind := ok.kind
  g := I.g
  b := I.b
  cells := fun z hz => by
    rw [lookup_relab] at hz
    cases hk : scope.names.lookup z with
    | none => rw [hk] at hz; simp at hz
    | some k =>
      rw [hk] at hz
      have hm := mem_lookup_kind hk
      cases k with
      | cell => obtain ⟨c, hc, _⟩ := cEnv_cell (env := env) (L := L) ok hm; exact ⟨c, hc⟩
      | free => obtain ⟨c, hc⟩ := I.cells z (ok.free z hm).1; exact ⟨c, cEnv_free ok hm hc⟩
      | _ => simp [kindIn] at hz

/-- the state when a comprehension begins -/
theorem cst_start {sc scope : Scope} {own : List Str} {env : Env} {A : Around} {N : List Addr} {ρ : Rho} {s₁ s₂ : Shared} {I : Addr} (ok : CompOk sc scope own) (P : Pre X n sc ρ A env N s₁) (k : Kp s₁ s₂) (hI1 : s₁.heap.objs.size ≤ I) (hI2 : I < s₂.heap.objs.size)
    {h₃ : Heap} (hh₃ : h₃ = s₂.heap.push { cls := .type "list", data := .seq ([] : List Value).toArray }) {h₄ : Heap} (hh₄ : h₄ = pushCells (h₃.push { cls := .type "dict", data := .dict #[] }) scope.names) :
    CSt X n (relab sc scope) A (cEnv sc scope env h₃.objs.size) own N s₁ (I :: s₂.heap.objs.size :: N) (hideL own ρ) { s₂ with heap := h₄ } ∧ h₄.PlainList s₂.heap.objs.size #[] ∧ Kp s₂ { s₂ with heap := h₄ } := by
  have e3 : h₃.objs.size = s₂.heap.objs.size + 1 := by rw [hh₃]; exact Heap.size_push ..
  have e4 : (h₃.push { cls := .type "dict", data := .dict #[] }).objs.size = s₂.heap.objs.size + 2 := by rw [Heap.size_push, e3]
  have sz4 : s₂.heap.objs.size + 2 ≤ h₄.objs.size := by rw [hh₄, ← e4]; exact pushCells_size _ _
  have up : ∀ b o, s₂.heap.get? b = some o → h₄.get? b = some o := fun b o e => by
    rw [hh₄, hh₃]
    exact pushCells_keeps _ _ b o (Heap.get?_push_of_some _ (Heap.get?_push_of_some _ e))
  have k4 : Kp s₂ { s₂ with heap := h₄ } := ⟨⟨h₄, s₂.toks, rfl, up⟩, by show s₂.heap.objs.size ≤ h₄.objs.size; omega⟩
  have hL : s₁.heap.objs.size ≤ h₃.objs.size := by have := k.size; omega
  have okc := cellsFrom_ok scope.names (h₃.push { cls := .type "dict", data := .dict #[] }) (h₃.objs.size + 1) [] ⟨fun _ _ hm => (nomatch hm), List.Pairwise.nil⟩ (by rw [Heap.size_push]; exact Nat.le_refl _)
  rw [Heap.size_push, ← hh₄] at okc
  refine ⟨⟨P.base, cEnv_is ok P.is, keeps_trans k k4, fun a ha => List.mem_cons_of_mem _ (List.mem_cons_of_mem _ ha), fun a ha => ?_, fun a ha => ?_, ⟨fun _ => none, ?_⟩, hL, fun z hz hk => ?_, fun z hz => ?_, fun z z' c hz hz' hk hk' hc hc' => ?_, fun z V hz hs ho => ?_, fun z V hz hs ho => ?_⟩, ?_, k4⟩
  · rcases List.mem_cons.mp ha with rfl | ha
    · exact .inr hI1
    · rcases List.mem_cons.mp ha with rfl | ha
      · exact .inr k.size
      · exact .inl ha
  · show a < h₄.objs.size
    have s24 : s₂.heap.objs.size < h₄.objs.size := Nat.lt_of_lt_of_le (Nat.lt_succ_of_lt (Nat.lt_succ_self _)) sz4
    rcases List.mem_cons.mp ha with rfl | ha
    · exact Nat.lt_trans hI2 s24
    · rcases List.mem_cons.mp ha with rfl | ha
      · exact s24
      · exact Nat.lt_trans (Nat.lt_of_lt_of_le (P.base.live a ha) k.size) s24
  · show h₄.Ns h₃.objs.size (fun _ => none)
    rw [hh₄]
    exact (Heap.Ns.new h₃ (.type "dict")).keeps (pushCells_keeps _ _)
  · obtain ⟨h1, h2⟩ := ok.own z hz
    have hcell : scope.names.lookup z = some .cell := by
      rw [lookup_relab] at hk
      rcases h2 with h2 | h2
      · rw [h2] at hk; simp [kindIn] at hk
      · exact h2
    obtain ⟨c, hc, hm⟩ := cEnv_cell (env := env) (L := h₃.objs.size) ok (mem_lookup_kind hcell)
    exact ⟨c, none, hc, (okc.empty z c hm).1, Nat.le_trans hL (Nat.le_of_succ_le (okc.empty z c hm).2)⟩
  · rw [lookup_relab]
    rcases (ok.own z hz).2 with h | h
    · rw [h]; left; simp [kindIn]
    · rw [h]; right; simp [kindIn]
  · have cellOf : ∀ z, z ∈ own → (relab sc scope).names.lookup z = some .cell → (z, NameKind.cell) ∈ scope.names := fun z hz hk => by
      rw [lookup_relab] at hk
      rcases (ok.own z hz).2 with h2 | h2
      · rw [h2] at hk; simp [kindIn] at hk
      · exact mem_lookup_kind h2
    obtain ⟨c1, g1, m1⟩ := cEnv_cell (env := env) (L := h₃.objs.size) ok (cellOf z hz hk)
    obtain ⟨c2, g2, m2⟩ := cEnv_cell (env := env) (L := h₃.objs.size) ok (cellOf z' hz' hk')
    rw [hc] at g1; cases g1
    rw [hc'] at g2; cases g2
    exact name_of_addr okc.apart m1 m2
  · rw [hideL_ne ho] at hz
    have hfree : (z, NameKind.free) ∈ scope.names := by
      unfold sees at hs
      rw [lookup_relab] at hs
      cases hk : scope.names.lookup z with
      | none => rw [hk] at hs; simp at hs
      | some kd =>
        have hm := mem_lookup_kind hk
        cases kd with
        | free => exact hm
        | «local» =>
          rcases ok.loc z hm with h | h
          · exact absurd h ho
          · subst h; rw [hk] at hs; simp [kindIn] at hs
        | cell => exact absurd (ok.cell z hm) ho
        | _ => rw [hk] at hs; simp [kindIn] at hs
    have hsc := (ok.free z hfree).1
    obtain ⟨v, hv, hb⟩ := P.ok z V hz (by rw [P.is.eq]; unfold sees; rcases hsc with h | h <;> rw [h])
    refine ⟨v, hv, ?_⟩
    rcases hb with ⟨hl, _⟩ | ⟨hl, c, hc, hcell⟩
    · rw [P.is.kindOf] at hl
      rcases hsc with h | h <;> rw [h] at hl <;> cases hl
    · refine .inr ⟨?_, c, cEnv_free ok hfree hc, hcell⟩
      rw [(cEnv_is (L := h₃.objs.size) ok P.is).kindOf, lookup_relab, lookup_of_nodup ok.nodup hfree]
      simp only [Option.map_some, kindIn]
      split
      · exact .inl rfl
      · exact .inr rfl
  · rw [hideL_own ho] at hz; cases hz
  · rw [hh₄]
    exact ⟨0, pushCells_keeps _ _ _ _ (Heap.get?_push_of_some _ (hh₃ ▸ Heap.get?_push_size _ rfl))⟩

/-- a list comprehension: its set-up and its end -/
theorem comp_core {sc scope : Scope} {own : List Str} {env : Env} {A : Around} {N : List Addr} {ρ : Rho} {s : Shared} {E : Value → Shared → Prop} {Q : Value → Shared → Prop} {use : Option (Value → Sem Unit)}
    {elt iter target : Expr} {ifs : List Expr} {rest : List Comprehension} {pos pos' : Pos} {V : Val} {α β : Type} {K : α → Val} {J : β → Val} {xs : List α} {zs : List β}
    (hok : compOk sc scope own = true) (P : Pre X n sc ρ A env N s) (hiter : Ev X n sc ρ iter V) (hitr : Itr X n V K xs) (hs : ∀ v, foldedSetIterable iter env v = pure v)
    (loop : ∀ (cenv : Env) (s₀ s₄ : Shared) (I D : Addr) (fp : List Addr) (P : Nat → Value → Prop) (St : Nat → Heap → Prop), CSt X n (relab sc scope) A cenv own N s₀ (I :: D :: N) (hideL own ρ) s₄ → Apart (relab sc scope) cenv own (I :: D :: N) s₀ I D fp →
      Walks X.prog X.w A I fp [I] xs.length P St → St 0 s₄.heap → s₄.heap.PlainList D #[] → (∀ i u, i < xs.length → P i u → ∃ a, xs[i]? = some a ∧ (K a).holds (vw (I :: D :: N) s₄.heap) u) →
      codeAny X.M A (.compLoop (.ListComp elt (⟨target, iter, ifs, 0⟩ :: rest) scope pos) 0 (.ref I) (.ref D) cenv)
        (fun r s' => match r with | .ok _ => Turn X n (relab sc scope) A cenv own N s₀ (I :: D :: N) (hideL own ρ) I D (fun _ _ => True) J s₄ 0 zs s' | .error _ => False) s₄)
    (hend : ∀ (D C : Addr) (s' : Shared), Res N s (lV J zs) (.ref D) s' → s.heap.objs.size ≤ C → D ≠ C → (∃ m, s'.heap.Ns C m) → compPost X.M A E use Q (.ref D) C (.ok .next) s') :
    wpAny X.M A (comprehension (.ListComp elt (⟨target, iter, ifs, 0⟩ :: rest) scope pos) scope env pos' (newList []) false (eval iter env) use) Q E s := by
  have ok := CompOk.of hok
  refine wpAny_comprehension_free (cl := closL env scope.names []) rfl hs (closureFor_eq fun z hz => P.is.cells z (ok.free z hz).1) ok.kind (fun x hx hl => ?_) ?_
  · obtain ⟨z, k⟩ := x; cases hl; exact lookup_of_nodup ok.nodup hx
  refine wpAny_mono (hiter.go A env N s E P) (fun xv s₁ h₁ => ?_) fun _ _ e => e
  have P₁ := P.keeps h₁.2
  refine wpAny_mono (hitr A N s₁ xv E P₁.base h₁.1) (fun it s₂ h₂ => ?_) fun _ _ e => e
  obtain ⟨k₂, I, fp, PP, St, rfl, hI1, hI2, W, hst, hfp, hP⟩ := h₂
  refine wpAny_newObj_type (wpAny_newCompEnv (sc := sc) (env := env) ?_)
  obtain ⟨C₄, hD₄, k₄⟩ := cst_start ok P₁ k₂ hI1 hI2 rfl rfl
  rw [relabel_eq P.is]
  generalize hs₄ : ({ s₂ with heap := pushCells ((s₂.heap.push { cls := .type "list", data := .seq ([] : List Value).toArray }).push { cls := .type "dict", data := .dict #[] }) scope.names } : Shared) = s₄ at C₄ k₄
  have hD₄ : s₄.heap.PlainList s₂.heap.objs.size #[] := by rw [← hs₄]; exact hD₄
  have hDC : ¬ isOwn (relab sc scope) (cEnv sc scope env (s₂.heap.push { cls := .type "list", data := .seq ([] : List Value).toArray }).objs.size) own s₂.heap.objs.size := fun h => by
    obtain ⟨m, hd⟩ := hD₄
    have := isOwn_data C₄ h hd
    cases this
  have ap : Apart (relab sc scope) (cEnv sc scope env (s₂.heap.push { cls := .type "list", data := .seq ([] : List Value).toArray }).objs.size) own (I :: s₂.heap.objs.size :: N) s₁ I s₂.heap.objs.size fp := by
    have own_ge : ∀ b, isOwn (relab sc scope) (cEnv sc scope env (s₂.heap.push { cls := .type "list", data := .seq ([] : List Value).toArray }).objs.size) own b → s₂.heap.objs.size ≤ b := by
      rintro b (rfl | ⟨z, hz, hk, hc⟩)
      · show _ ≤ (s₂.heap.push _).objs.size; rw [Heap.size_push]; exact Nat.le_succ _
      · have hcell : (z, NameKind.cell) ∈ scope.names := by
          rw [lookup_relab] at hk
          rcases (ok.own z hz).2 with h2 | h2
          · rw [h2] at hk; simp [kindIn] at hk
          · exact mem_lookup_kind h2
        obtain ⟨c, hc1, hm⟩ := cEnv_cell (env := env) (L := (s₂.heap.push { cls := .type "list", data := .seq ([] : List Value).toArray }).objs.size) ok hcell
        rw [hc] at hc1; cases hc1
        have okc := cellsFrom_ok scope.names ((s₂.heap.push { cls := .type "list", data := .seq ([] : List Value).toArray }).push { cls := .type "dict", data := .dict #[] }) ((s₂.heap.push { cls := .type "list", data := .seq ([] : List Value).toArray }).objs.size + 1) [] ⟨fun _ _ hm => (nomatch hm), List.Pairwise.nil⟩ (Nat.le_of_eq (Heap.size_push ..).symm)
        rw [Heap.size_push (s₂.heap.push _)] at okc
        have := (okc.empty z b hm).2
        rw [Heap.size_push] at this
        exact Nat.le_trans (Nat.le_of_lt (Nat.lt_succ_of_lt (Nat.lt_succ_self _))) this
    refine ⟨List.mem_cons_self, List.mem_cons_of_mem _ List.mem_cons_self, hI1, k₂.size, fun h => ?_, hDC, Nat.ne_of_lt hI2, fun b hb => ?_⟩
    · exact absurd (own_ge I h) (Nat.not_le.mpr hI2)
    · rcases hfp b hb with h | ⟨_, o, ho, _⟩
      · exact .inl h
      · have hlt : b < s₂.heap.objs.size := Nat.lt_of_lt_of_le (Heap.lt_size ho) k₂.size
        exact .inr ⟨Nat.ne_of_lt hlt, fun h => absurd (own_ge b h) (Nat.not_le.mpr hlt)⟩
  have hP₄ : ∀ i u, i < xs.length → PP i u → ∃ a, xs[i]? = some a ∧ (K a).holds (vw (I :: s₂.heap.objs.size :: N) s₄.heap) u := fun i u hi hu => by
    obtain ⟨a, ha, hK⟩ := hP i u hi hu
    exact ⟨a, ha, (K a).mono _ _ _ C₄.view hK⟩
  have hst₄ : St 0 s₄.heap := W.frame _ _ _ hst fun b _ o e => keeps_get k₄ b o e
  have main := loop _ s₁ s₄ I s₂.heap.objs.size fp PP St C₄ ap W hst₄ hD₄ hP₄
  have main' : codeAny X.M A (.compLoop (.ListComp elt (⟨target, iter, ifs, 0⟩ :: rest) scope pos) 0 (.ref I) (.ref s₂.heap.objs.size) (cEnv sc scope env (s₂.heap.push { cls := .type "list", data := .seq ([] : List Value).toArray }).objs.size))
      (compPost X.M A E use Q (.ref s₂.heap.objs.size) (s₂.heap.push { cls := .type "list", data := .seq ([] : List Value).toArray }).objs.size) s₄ := by
    refine codeAny_mono main fun r s' hr => ?_
    cases r with
    | error e => exact hr.elim
    | ok fl =>
      have T : Turn X n (relab sc scope) A _ own N s₁ (I :: s₂.heap.objs.size :: N) (hideL own ρ) I s₂.heap.objs.size (fun _ _ => True) J s₄ 0 zs s' := hr
      obtain ⟨ys, ⟨m, hy⟩, hp⟩ := T.acc
      have hDN : s₂.heap.objs.size ∉ N := (P₁.base.keeps k₂).fresh (Nat.le_refl _)
      have hres : Res N s (lV J zs) (.ref s₂.heap.objs.size) s' := by
        refine ⟨?_, keeps_trans h₁.2 T.cst.kept⟩
        refine ⟨s₂.heap.objs.size, ys.toList, m, rfl, vw_some.mpr ⟨hDN, hy⟩, ?_⟩
        exact paired_mono (vw_le_sub fun a ha => List.mem_cons_of_mem _ (List.mem_cons_of_mem _ ha)) hp
      have hC : s.heap.objs.size ≤ (s₂.heap.push { cls := .type "list", data := .seq ([] : List Value).toArray }).objs.size := Nat.le_trans h₁.2.size T.cst.nsNew
      have hne : s₂.heap.objs.size ≠ (s₂.heap.push { cls := .type "list", data := .seq ([] : List Value).toArray }).objs.size := by rw [Heap.size_push]; exact Nat.ne_of_lt (Nat.lt_succ_self _)
      have := hend _ _ s' hres hC hne T.cst.ns
      cases use <;> exact this
  show codeAny X.M A (.compStart (.ListComp elt (⟨target, iter, ifs, 0⟩ :: rest) scope pos) 0 (.ref I) (.ref s₂.heap.objs.size) (cEnv sc scope env (s₂.heap.push { cls := .type "list", data := .seq ([] : List Value).toArray }).objs.size)) _ _
  refine codeAny_compStart_at (target := target) (iter := iter) (ifs := ifs) rfl ?_ ?_
  · exact main'
  · exact W.self 0 _ _ _ hst₄ main'
end
end Mine
open PySem PySem.W PyProof.Rows
set_option Elab.async false
set_option autoImplicit false
set_option linter.unusedVariables false
namespace Mine
section
variable {X : Cx} {n : Nat} {sc : Scope} {ρ : Rho} {α β γ : Type} {K : α → Val} {J : β → Val} {xs : List α}

theorem upd_hide1 {x : Str} {V : Val} : upd (hideL [x] ρ) x V = upd ρ x V := by
  funext z
  unfold upd hideL
  by_cases h : z = x <;> simp [h]
theorem upd_hide2 {x y : Str} {V V' : Val} : upd (upd (hideL [x, y] ρ) x V) y V' = upd (upd ρ x V) y V' := by
  funext z
  unfold upd hideL
  by_cases h : z = y <;> by_cases h' : z = x <;> simp [h, h']

/-- a comprehension's own names are let go: no value leans on them -/
theorem res_letGo {N : List Addr} {s s' : Shared} {V : Val} {v : Value} {C : Addr} {h' : Heap} (hr : Res N s V v s') (hC : s.heap.objs.size ≤ C) (hn : ∃ m, s'.heap.Ns C m) (hs : Heap.SameBut C s'.heap h') : Res N s V v { s' with heap := h' } := by
  have k : KpB (· = C) s' { s' with heap := h' } := KpB.same_but (tk := s'.toks) hs
  refine ⟨V.mono _ _ _ (vw_but k fun b o e _ e' => ?_) hr.1, ?_⟩
  · subst e
    obtain ⟨m, o', es, ep, ho', hd, _⟩ := hn
    rw [e'] at ho'; cases ho'
    unfold isData; rw [hd]
  · refine ⟨?_, Nat.le_trans hr.2.size k.size⟩
    obtain ⟨h1, t1, e1, _⟩ := hr.2.keeps
    refine ⟨h', s'.toks, by rw [e1], fun b o e => ?_⟩
    exact k.get b o (fun h => absurd (Heap.lt_size e) (Nat.not_lt.mpr (h ▸ hC))) (keeps_get hr.2 b o e)

theorem loop1 {scope : Scope} {x : Str} {px pos : Pos} {iter elt : Expr} {ifs : List Expr} {f : α → β} {p : α → Bool} {A : Around} {N : List Addr}
    (hok : compOk sc scope [x] = true) (htest : ∀ a ∈ xs, Tests X n (relab sc scope) (upd ρ x (K a)) ifs (p a)) (helt : ∀ a ∈ xs, p a = true → Ev X n (relab sc scope) (upd ρ x (K a)) elt (J (f a))) (hlen : xs.length ≤ 500)
    (cenv : Env) (s₀ s₄ : Shared) (I D : Addr) (fp : List Addr) (P : Nat → Value → Prop) (St : Nat → Heap → Prop) (C : CSt X n (relab sc scope) A cenv [x] N s₀ (I :: D :: N) (hideL [x] ρ) s₄) (ap : Apart (relab sc scope) cenv [x] (I :: D :: N) s₀ I D fp)
    (W : Walks X.prog X.w A I fp [I] xs.length P St) (hst : St 0 s₄.heap) (hD : s₄.heap.PlainList D #[]) (hP : ∀ i u, i < xs.length → P i u → ∃ a, xs[i]? = some a ∧ (K a).holds (vw (I :: D :: N) s₄.heap) u) :
    codeAny X.M A (.compLoop (.ListComp elt [⟨.Name x px, iter, ifs, 0⟩] scope pos) 0 (.ref I) (.ref D) cenv)
      (fun r s' => match r with | .ok _ => Turn X n (relab sc scope) A cenv [x] N s₀ (I :: D :: N) (hideL [x] ρ) I D (fun _ _ => True) J s₄ 0 ((xs.filter p).map f) s' | .error _ => False) s₄ := by
  have ok := CompOk.of hok
  have hx : x ∈ [x] := List.mem_cons_self
  refine comp_last (zs := []) (p := p) (f := f) (px := px) (iter := iter) (ifs := ifs) rfl rfl W ap hst C ⟨#[], hD, .nil⟩ hx (by simpa using (ok.own x hx).1) (hideL_own hx) hP ?_ ?_ (by simp only [List.length_nil]; omega) fun s' T => by simpa using T
  · intro a ha; rw [upd_hide1]; exact htest a ha
  · intro a ha hp; rw [upd_hide1]; exact helt a ha hp

/-- a comprehension's run, whatever is done with its list -/
structure Cp (X : Cx) (n : Nat) (sc : Scope) (ρ : Rho) (e : Expr) (scope : Scope) (iter : Expr) (V : Val) : Prop where
  go : ∀ (A : Around) (env : Env) (N : List Addr) (s : Shared) (E Q : Value → Shared → Prop) (use : Option (Value → Sem Unit)) (pos : Pos), Pre X n sc ρ A env N s →
    (∀ (D C : Addr) (s' : Shared), Res N s V (.ref D) s' → s.heap.objs.size ≤ C → D ≠ C → (∃ m, s'.heap.Ns C m) → compPost X.M A E use Q (.ref D) C (.ok .next) s') →
    wpAny X.M A (comprehension e scope env pos (newList []) false (eval iter env) use) Q E s

theorem Cp.ev {elt iter target : Expr} {ifs : List Expr} {rest : List Comprehension} {scope : Scope} {pos : Pos} {V : Val} (h : Cp X n sc ρ (.ListComp elt (⟨target, iter, ifs, 0⟩ :: rest) scope pos) scope iter V) :
    Ev X n sc ρ (.ListComp elt (⟨target, iter, ifs, 0⟩ :: rest) scope pos) V := .mk fun A env N s E P => by
  rw [eval_ListComp]
  exact h.go A env N s E _ none _ P fun D C s' hr hC hne hn => ⟨_, hn.choose_spec, fun h' hs' => res_letGo hr hC hn hs'⟩

theorem Cp.comp1 {scope : Scope} {x : Str} {px pos : Pos} {iter elt : Expr} {ifs : List Expr} {V : Val} {f : α → β} {p : α → Bool} (hok : compOk sc scope [x] = true) (hiter : Ev X n sc ρ iter V) (hitr : Itr X n V K xs)
    (htest : ∀ a ∈ xs, Tests X n (relab sc scope) (upd ρ x (K a)) ifs (p a)) (helt : ∀ a ∈ xs, p a = true → Ev X n (relab sc scope) (upd ρ x (K a)) elt (J (f a))) (hlen : xs.length ≤ 500)
    (hs : ∀ env v, foldedSetIterable iter env v = pure v := by intro _ _; rfl) : Cp X n sc ρ (.ListComp elt [⟨.Name x px, iter, ifs, 0⟩] scope pos) scope iter (lV J ((xs.filter p).map f)) := .mk fun A env N s E Q use pos' P hend =>
  comp_core hok P hiter hitr (hs env) (loop1 hok htest helt hlen) hend

theorem Cp.comp1n {scope : Scope} {x : Str} {px pos : Pos} {iter elt : Expr} {V : Val} {f : α → β} (hok : compOk sc scope [x] = true) (hiter : Ev X n sc ρ iter V) (hitr : Itr X n V K xs)
    (helt : ∀ a ∈ xs, Ev X n (relab sc scope) (upd ρ x (K a)) elt (J (f a))) (hlen : xs.length ≤ 500)
    (hs : ∀ env v, foldedSetIterable iter env v = pure v := by intro _ _; rfl) : Cp X n sc ρ (.ListComp elt [⟨.Name x px, iter, [], 0⟩] scope pos) scope iter (lV J (xs.map f)) := by
  have h := Cp.comp1 (X := X) (p := fun _ => true) (px := px) (pos := pos) hok hiter hitr (fun a _ => Tests.nil) (fun a ha _ => helt a ha) hlen hs
  rwa [List.filter_eq_self.mpr fun _ _ => rfl] at h

theorem Ev.comp1 {scope : Scope} {x : Str} {px pos : Pos} {iter elt : Expr} {ifs : List Expr} {V : Val} {f : α → β} {p : α → Bool} (hok : compOk sc scope [x] = true) (hiter : Ev X n sc ρ iter V) (hitr : Itr X n V K xs)
    (htest : ∀ a ∈ xs, Tests X n (relab sc scope) (upd ρ x (K a)) ifs (p a)) (helt : ∀ a ∈ xs, p a = true → Ev X n (relab sc scope) (upd ρ x (K a)) elt (J (f a))) (hlen : xs.length ≤ 500)
    (hs : ∀ env v, foldedSetIterable iter env v = pure v := by intro _ _; rfl) : Ev X n sc ρ (.ListComp elt [⟨.Name x px, iter, ifs, 0⟩] scope pos) (lV J ((xs.filter p).map f)) :=
  Cp.ev (Cp.comp1 hok hiter hitr htest helt hlen hs)

theorem Ev.comp1n {scope : Scope} {x : Str} {px pos : Pos} {iter elt : Expr} {V : Val} {f : α → β} (hok : compOk sc scope [x] = true) (hiter : Ev X n sc ρ iter V) (hitr : Itr X n V K xs)
    (helt : ∀ a ∈ xs, Ev X n (relab sc scope) (upd ρ x (K a)) elt (J (f a))) (hlen : xs.length ≤ 500)
    (hs : ∀ env v, foldedSetIterable iter env v = pure v := by intro _ _; rfl) : Ev X n sc ρ (.ListComp elt [⟨.Name x px, iter, [], 0⟩] scope pos) (lV J (xs.map f)) :=
  Cp.ev (Cp.comp1n hok hiter hitr helt hlen hs)

theorem Cp.comp2 {scope : Scope} {x y : Str} {px py pos : Pos} {iter iter' elt : Expr} {ifs ifs' : List Expr} {V : Val} {V' : α → Val} {K' : γ → Val} {ys : α → List γ} {f : α → γ → β} {p : α → Bool} {q : α → γ → Bool} (hok : compOk sc scope [x, y] = true) (hxy : (y == x) = false)
    (hiter : Ev X n sc ρ iter V) (hitr : Itr X n V K xs)
    (htest : ∀ a ∈ xs, Tests X n (relab sc scope) (upd (hideL [x, y] ρ) x (K a)) ifs (p a))
    (hiter' : ∀ a ∈ xs, p a = true → Ev X n (relab sc scope) (upd (hideL [x, y] ρ) x (K a)) iter' (V' a)) (hitr' : ∀ a ∈ xs, p a = true → Itr X n (V' a) K' (ys a))
    (htest' : ∀ a ∈ xs, p a = true → ∀ b ∈ ys a, Tests X n (relab sc scope) (upd (upd ρ x (K a)) y (K' b)) ifs' (q a b))
    (helt : ∀ a ∈ xs, p a = true → ∀ b ∈ ys a, q a b = true → Ev X n (relab sc scope) (upd (upd ρ x (K a)) y (K' b)) elt (J (f a b)))
    (hlen : ∀ i, i ≤ xs.length → ((xs.take i).flatMap fun a => if p a then ((ys a).filter (q a)).map (f a) else []).length ≤ 500) (hlen' : ∀ a ∈ xs, (ys a).length ≤ 500)
    (hs : ∀ env v, foldedSetIterable iter env v = pure v := by intro _ _; rfl) (hs' : ∀ env v, foldedSetIterable iter' env v = pure v := by intro _ _; rfl) :
    Cp X n sc ρ (.ListComp elt [⟨.Name x px, iter, ifs, 0⟩, ⟨.Name y py, iter', ifs', 0⟩] scope pos) scope iter (lV J (xs.flatMap fun a => if p a then ((ys a).filter (q a)).map (f a) else [])) := .mk fun A env N s E Q use pos' P hend => by
  have ok := CompOk.of hok
  have hx : x ∈ [x, y] := List.mem_cons_self
  have hy : y ∈ [x, y] := List.mem_cons_of_mem _ List.mem_cons_self
  refine comp_core hok P hiter hitr (hs env) (fun cenv s₀ s₄ I D fp PP St C ap W hst hD hP => ?_) hend
  refine comp_more (zs := []) (p := p) (q := q) (f := f) (V' := V') (ys := ys) (K' := K') (px := px) (py := py) (iter := iter) (iter' := iter') (ifs := ifs) (ifs' := ifs') rfl rfl rfl W ap hst C ⟨#[], hD, .nil⟩ hx (by simpa using (ok.own x hx).1) (hideL_own hx)
    hy (by simpa using (ok.own y hy).1) (hideL_own hy) (by simpa using hxy) hP htest hiter' hitr' ?_ ?_ (by simpa using hlen) hlen' (hs' cenv) fun s' T => by simpa using T
  · intro a ha hp b hb; rw [upd_hide2]; exact htest' a ha hp b hb
  · intro a ha hp b hb hq; rw [upd_hide2]; exact helt a ha hp b hb hq
end
end Mine
open PySem PySem.W PyProof.Rows
set_option Elab.async false
set_option autoImplicit false
set_option linter.unusedVariables false
namespace Mine
section
variable {X : Cx} {n : Nat} {sc : Scope} {ρ : Rho}

/-! names of the module and built-in ones -/
theorem load_global {A : Around} {env : Env} {N : List Addr} {s : Shared} {E Q : Value → Shared → Prop} {f : Str} {v : Value} (P : Pre X n sc ρ A env N s) (hk : sc.names.lookup f = some .globalImplicit) (hv : X.mg f = some v) (h : Q v s) :
    wpAny X.M A (loadName env f) Q E s := by
  refine ks_loadName_global (by rw [P.is.eq]; exact P.is.kind) (by rw [P.is.kindOf]; exact hk) ?_
  unfold loadGlobal
  refine wpAny_bind (wpAny_nsGet (by rw [P.is.g]; exact P.base.gd.g) ?_)
  rw [hv]; exact wpAny_pure h
theorem load_builtin {A : Around} {env : Env} {N : List Addr} {s : Shared} {E Q : Value → Shared → Prop} {f : Str} {v : Value} (P : Pre X n sc ρ A env N s) (hk : sc.names.lookup f = some .globalImplicit) (hf : f ∈ bnames) (hb : bootBuiltins f = some v) (h : Q v s) :
    wpAny X.M A (loadName env f) Q E s := by
  refine ks_loadName_global (by rw [P.is.eq]; exact P.is.kind) (by rw [P.is.kindOf]; exact hk) ?_
  unfold loadGlobal
  refine wpAny_bind (wpAny_nsGet (by rw [P.is.g]; exact P.base.gd.g) ?_)
  rw [P.base.gd.bn f hf]
  refine wpAny_bind (wpAny_nsGet (by rw [P.is.b]; exact P.base.gd.b) ?_)
  have hne : f ≠ "__name__" := by rintro rfl; revert hf; decide
  rw [P.base.gd.bl f hne, hb]; exact wpAny_pure h

/-- what a call of the function value f with such arguments gives -/
structure Fn (X : Cx) (n : Nat) (f : Value) (Vs : List Val) (V : Val) : Prop where
  go : ∀ (A : Around) (N : List Addr) (s : Shared) (vs : List Value) (E : Value → Shared → Prop), Base X n A N s → Paired (fun v (V : Val) => V.holds (vw N s.heap) v) vs Vs → wpAny X.M A (call f vs) (Res N s V) E s

theorem any_false {es : List Expr} {Vs : List Val} {env : Env} {pos : Pos} (h : EvAll X n sc ρ (fun V : Val => V) es Vs) : (backTo pos (starEach es env)).any (·.1) = false := by
  induction h with
  | nil => rfl
  | cons he _ ih => rw [starEach_cons he.1, backTo_cons, List.any_cons, ih]; rfl

theorem Ev.callB {f : Str} {id : String} {es : List Expr} {e : Expr} {p pos : Pos} {Vs : List Val} {V : Val} (hargs : EvAll X n sc ρ (fun V : Val => V) (e :: es) Vs) (ho : Fn X n (.builtin id) Vs V)
    (hf : f ∈ bnames) (hb : bootBuiltins f = some (.builtin id)) (hk : sc.names.lookup f = some .globalImplicit) : Ev X n sc ρ (.Call (.Name f p) (e :: es) [] pos) V := .mk fun A env N s E P => by
  have hd : (f == ("__debug__" : Str)) = false := by revert hf; unfold bnames; intro hf; simp only [List.mem_cons, List.not_mem_nil, or_false] at hf; rcases hf with rfl | rfl | rfl | rfl | rfl | rfl | rfl | rfl <;> decide
  refine Call_Name rfl (wpAny_Name (load_builtin P hk hf hb ?_) hd)
  refine Calls.callWith_builtin (any_false hargs) ?_
  have h0 := hargs
  cases h0 with
  | cons he _ =>
    have hsp := spliced_all (A := A) (env := env) (N := N) (s := s) (E := E) (pos := pos) hargs P
    rw [starEach_cons he.1, backTo_cons] at hsp ⊢
    refine Calls.evalArgs_plain (wpAny_mono hsp (fun vs s₁ hv => ?_) fun _ _ e => e)
    exact res_mono hv.2 (ho.go A N s₁ vs E (P.base.keeps hv.2) hv.1)

theorem Ev.callT {f : Str} {T : String} {es : List Expr} {e : Expr} {p pos : Pos} {Vs : List Val} {V : Val} (hargs : EvAll X n sc ρ (fun V : Val => V) (e :: es) Vs) (ho : Fn X n (.type T) Vs V)
    (hf : f ∈ bnames) (hb : bootBuiltins f = some (.type T)) (hk : sc.names.lookup f = some .globalImplicit) : Ev X n sc ρ (.Call (.Name f p) (e :: es) [] pos) V := .mk fun A env N s E P => by
  have hd : (f == ("__debug__" : Str)) = false := by revert hf; unfold bnames; intro hf; simp only [List.mem_cons, List.not_mem_nil, or_false] at hf; rcases hf with rfl | rfl | rfl | rfl | rfl | rfl | rfl | rfl <;> decide
  refine Call_Name rfl (wpAny_Name (load_builtin P hk hf hb ?_) hd)
  refine PyProof.Rows.callWith_type (any_false hargs) ?_
  have h0 := hargs
  cases h0 with
  | cons he _ =>
    have hsp := spliced_all (A := A) (env := env) (N := N) (s := s) (E := E) (pos := pos) hargs P
    rw [starEach_cons he.1, backTo_cons] at hsp ⊢
    refine Calls.evalArgs_plain (wpAny_mono hsp (fun vs s₁ hv => ?_) fun _ _ e => e)
    exact res_mono hv.2 (ho.go A N s₁ vs E (P.base.keeps hv.2) hv.1)

/-- a def of the text -/
theorem Ev.callF {f : Str} {a : Addr} {o : Obj} {fd : FuncData} {es : List Expr} {e : Expr} {p pos : Pos} {Vs : List Val} {V : Val} (hargs : EvAll X n sc ρ (fun V : Val => V) (e :: es) Vs) (ho : Fn X n (.ref a) Vs V)
    (hf : (f, a) ∈ X.F) (ha : X.K.lookup a = some o) (hd : o.data = .func fd) (hk : sc.names.lookup f = some .globalImplicit) (hdb : (f == ("__debug__" : Str)) = false) : Ev X n sc ρ (.Call (.Name f p) (e :: es) [] pos) V := .mk fun A env N s E P => by
  refine Call_Name rfl (wpAny_Name (load_global P hk (P.base.gd.fn _ hf) ?_) hdb)
  have h0 := hargs
  cases h0 with
  | cons he _ =>
    have hsp := spliced_all (A := A) (env := env) (N := N) (s := s) (E := E) (pos := pos) hargs P
    refine callWith_def (o := o) (fd := fd) hd (wpAny_mono hsp (fun vs s₁ hv => ?_) fun _ _ e => e) (starEach_cons he.1)
    exact ⟨(P.base.keeps hv.2).gd.frag a o ha, res_mono hv.2 (ho.go A N s₁ vs E (P.base.keeps hv.2) hv.1)⟩

/-! the built-in functions -/
theorem ints_of {N : List Addr} {h : Heap} {vs : List Value} {l : List Int} (hp : Paired (fun v x => (iV x).holds (vw N h) v) vs l) : IntsAre vs l := by
  induction hp with
  | nil => exact .nil
  | cons h _ ih => obtain ⟨t, rfl⟩ := h; exact .cons _ _ ih

theorem fn_sum {l : List Int} : Fn X n (.builtin "sum") [lV iV l] (iV l.sum) := by
  refine ⟨?_⟩
  intro A N s vs E B hp
  cases hp with
  | cons h h' =>
    cases h'
    obtain ⟨a, us, rfl, _, hl, hq⟩ := lv_list h
    have hI := ints_of hq
    refine res_of ?_
    obtain ⟨xs, hx⟩ := hI.allInts.items
    have hn : numsOf us.toArray.toList = l := by rw [show us.toArray.toList = us from rfl, hI.numsOf]
    rw [hx] at hl hn
    rw [nums_intItems] at hn
    refine sum_intListG B.lev.handled hl fun h' tk t' hk => ?_
    rw [preSum_eq, List.take_of_length_le (by simp), hn]
    exact ⟨⟨_, rfl⟩, h', tk, rfl, hk⟩

theorem fn_len {α : Type} {K : α → Val} {l : List α} (hlen : l.length ≤ 2 ^ 30) : Fn X n (.builtin "len") [lV K l] (iV l.length) := by
  refine ⟨?_⟩
  intro A N s vs E B hp
  cases hp with
  | cons h h' =>
    cases h'
    obtain ⟨a, us, rfl, _, hl, hq⟩ := lv_list h
    have e : us.toArray.size = l.length := by simpa using Paired.length hq
    refine Calls.call_len_list hl (by rw [e]; omega) ?_
    rw [e]
    exact ⟨⟨_, rfl⟩, keeps_toks⟩

theorem rv_push {A : Around} {N : List Addr} {s : Shared} {lo hi : Int} {t u x : Tok} {tk : Nat} (B : Base X n A N s) :
    Res N s (rV lo hi) (.ref s.heap.objs.size) { s with heap := s.heap.push { cls := .type "range", data := .fields #[.int lo t, .int hi u, .int 1 x] }, toks := tk } :=
  ⟨⟨_, t, u, x, rfl, vw_some.mpr ⟨B.fresh (Nat.le_refl _), Heap.get?_push_size _ rfl⟩⟩, keeps_trans keeps_push keeps_toks⟩
theorem fn_range1 {b : Int} : Fn X n (.type "range") [iV b] (rV 0 b) := by
  refine ⟨?_⟩
  intro A N s vs E B hp
  cases hp with
  | cons h h' => cases h'; obtain ⟨t, rfl⟩ := h; exact call_range_1 (rv_push B)
theorem fn_range2 {a b : Int} : Fn X n (.type "range") [iV a, iV b] (rV a b) := by
  refine ⟨?_⟩
  intro A N s vs E B hp
  cases hp with
  | cons h h' => cases h' with | cons h2 h3 => cases h3; obtain ⟨t, rfl⟩ := h; obtain ⟨u, rfl⟩ := h2; exact call_range_2 (rv_push B)

theorem fn_hex {i : Int} (hs : (baseText "0x" 16 i).length ≤ 1000) : Fn X n (.builtin "hex") [iV i] (sV (baseText "0x" 16 i)) := by
  refine ⟨?_⟩
  intro A N s vs E B hp
  cases hp with
  | cons h h' => cases h'; obtain ⟨t, rfl⟩ := h; exact P.hex_of_int ⟨⟨_, rfl⟩, keeps_toks⟩ (by rw [sizeLine_eq]; omega)

theorem min_unique {l : List Int} {a b : Int} (ha : a ∈ l) (hb : b ∈ l) (h1 : ∀ x ∈ l, a ≤ x) (h2 : ∀ x ∈ l, b ≤ x) : a = b := Int.le_antisymm (h1 b hb) (h2 a ha)
theorem fn_min {l : List Int} {m : Int} (hm : m ∈ l) (hle : ∀ x ∈ l, m ≤ x) : Fn X n (.builtin "min") [lV iV l] (iV m) := by
  refine ⟨?_⟩
  intro A N s vs E B hp
  cases hp with
  | cons h h' =>
    cases h'
    obtain ⟨a, us, rfl, _, hl, hq⟩ := lv_list h
    have hI := ints_of hq
    refine res_of ?_
    obtain ⟨xs, hx⟩ := hI.allInts.items
    have hn : numsOf us.toArray.toList = l := by rw [show us.toArray.toList = us from rfl, hI.numsOf]
    rw [hx] at hl hn
    rw [nums_intItems] at hn
    have hlen : xs.size = l.length := by rw [← hn]; simp
    have hsz : 0 < xs.size := by rw [hlen]; exact List.length_pos_of_mem hm
    refine min_intList B.lev.handled hl hsz fun v h' tk hv hk => ?_
    obtain ⟨t, rfl⟩ := intItems_at hv
    obtain ⟨h1, h2⟩ := argBest_lt (numAt xs) (xs.size - 1)
    have hmem : numAt xs (argBest (fun i j => decide (numAt xs i < numAt xs j)) (xs.size - 1)) ∈ l := by
      rw [← hn, numAt_eq]; exact getD_mem (by rw [List.length_map, Array.length_toList]; omega)
    have hmin : ∀ x ∈ l, numAt xs (argBest (fun i j => decide (numAt xs i < numAt xs j)) (xs.size - 1)) ≤ x := fun x hx => by
      rw [← hn] at hx
      obtain ⟨j, hj, rfl⟩ := mem_getD hx
      rw [List.length_map, Array.length_toList] at hj
      rw [← numAt_eq xs j]; exact h2 j (by omega)
    rw [min_unique hmem hm hmin hle]
    exact ⟨⟨_, rfl⟩, h', tk, rfl, hk⟩
end
end Mine
open PySem PySem.W PyProof.Rows PySem.MeetsSeq PySem.SeqRoads2
set_option Elab.async false
set_option autoImplicit false
set_option linter.unusedVariables false
namespace Mine
section
variable {X : Cx} {n : Nat} {sc : Scope} {ρ : Rho}

/-! data as the claims' data: equality of lists at any depth -/
structure Enc {α : Type} [DecidableEq α] (K : α → Val) (enc : α → PyData) (ok : α → Prop) (d : Nat) : Prop where
  reads : ∀ {N : List Addr} {h : Heap} {v : Value} {x : α}, (K x).holds (vw N h) v → ∃ as, Reads h v (enc x) as
  eqv : ∀ x y, PyData.eqv (enc x) (enc y) = decide (x = y)
  lay : ∀ x, ok x → (enc x).canLay0 = true
  depth : ∀ x, (enc x).depth ≤ d

theorem enc_int : Enc iV PyData.int (fun _ => True) 0 where
  reads := by rintro N h v x ⟨t, rfl⟩; exact ⟨_, .int x t⟩
  eqv := fun x y => by show (x == y) = _; rfl
  lay := fun _ _ => rfl
  depth := fun x => by simp [PyData.depth]
theorem enc_str : Enc sV PyData.str (fun x => PyData.strOk x = true) 0 where
  reads := by rintro N h v x ⟨t, rfl⟩; exact ⟨_, .str x t⟩
  eqv := fun x y => by
    simp only [PyData.eqv]
    by_cases h : x = y
    · subst h; simp
    · simp [h]
  lay := fun _ h => by simpa [PyData.canLay0] using h
  depth := fun x => by simp [PyData.depth]

theorem readsAll {α : Type} [DecidableEq α] {K : α → Val} {enc : α → PyData} {ok : α → Prop} {d : Nat} (e : Enc K enc ok d) {N : List Addr} {h : Heap} {vs : List Value} {l : List α} (hp : Paired (fun v x => (K x).holds (vw N h) v) vs l) :
    ∃ as, ReadsAll h vs (l.map enc) as := by
  induction hp with
  | nil => exact ⟨[], .nil⟩
  | cons hv _ ih => obtain ⟨as, ha⟩ := e.reads hv; obtain ⟨bs, hb⟩ := ih; exact ⟨_, .cons ha hb⟩
theorem eqvAll_map {α : Type} [DecidableEq α] {enc : α → PyData} (h : ∀ x y, PyData.eqv (enc x) (enc y) = decide (x = y)) : ∀ l r : List α, PyData.eqvAll (l.map enc) (r.map enc) = decide (l = r)
  | [], [] => by simp [PyData.eqvAll]
  | [], _ :: _ => by simp [PyData.eqvAll]
  | _ :: _, [] => by simp [PyData.eqvAll]
  | a :: l, b :: r => by
    simp only [List.map_cons, PyData.eqvAll, h, eqvAll_map h l r]
    by_cases h1 : a = b <;> by_cases h2 : l = r <;> simp [h1, h2]
theorem canLayAll_map {α : Type} {enc : α → PyData} {ok : α → Prop} (h : ∀ x, ok x → (enc x).canLay0 = true) : ∀ l : List α, (∀ x ∈ l, ok x) → PyData.canLayAll0 (l.map enc) = true
  | [], _ => rfl
  | a :: l, hl => by
    simp only [List.map_cons, PyData.canLayAll0, h a (hl a List.mem_cons_self), canLayAll_map h l fun x hx => hl x (List.mem_cons_of_mem _ hx), Bool.and_true]
theorem depthAll_map {α : Type} {enc : α → PyData} {d : Nat} (h : ∀ x, (enc x).depth ≤ d) : ∀ l : List α, PyData.depthAll (l.map enc) ≤ d
  | [] => by simp [PyData.depthAll]
  | a :: l => by
    simp only [List.map_cons, PyData.depthAll]
    exact Nat.max_le.mpr ⟨h a, depthAll_map h l⟩
theorem enc_list {α : Type} [DecidableEq α] {K : α → Val} {enc : α → PyData} {ok : α → Prop} {d : Nat} (e : Enc K enc ok d) : Enc (lV K) (fun l => .list (l.map enc)) (fun l => ∀ x ∈ l, ok x) (d + 1) where
  reads := by
    rintro N h v l ⟨a, vs, k, rfl, ho, hp⟩
    obtain ⟨as, ha⟩ := readsAll e hp
    exact ⟨_, .list (vw_get ho) rfl rfl ha⟩
  eqv := fun x y => by simp only [PyData.eqv]; exact eqvAll_map e.eqv x y
  lay := fun l hl => by simp only [PyData.canLay0]; exact canLayAll_map e.lay l hl
  depth := fun l => by simp only [PyData.depth]; have := depthAll_map e.depth l; omega

theorem shaped_of {α : Type} [DecidableEq α] {K : α → Val} {enc : α → PyData} {ok : α → Prop} {d : Nat} (e : Enc K enc ok d) (hd : d ≤ 64) {x : α} (hx : ok x) : SeqAt.shaped (enc x) = true := by
  unfold SeqAt.shaped
  rw [e.lay x hx]
  simpa using Nat.le_trans (e.depth x) hd
theorem cmp_eqE {α : Type} [DecidableEq α] {K : α → Val} {enc : α → PyData} {ok : α → Prop} {d : Nat} {x y : α} (e : Enc K enc ok d) (hd : d ≤ 64) (hx : ok x) (hy : ok y) : Op2 X n (compareOp .Eq) (K x) (K y) (bV (decide (x = y))) := by
  intro A N s a b E B ha hb
  obtain ⟨as, ra⟩ := e.reads ha
  obtain ⟨bs, rb⟩ := e.reads hb
  have hu : A.units + 64 < cLine := by have := B.lev.units; unfold cLine; omega
  refine eq_dataH ra rb (shaped_of e hd hx) (shaped_of e hd hy) hu ?_
  rw [e.eqv]; exact ⟨rfl, keeps_refl s⟩
theorem cmp_neE {α : Type} [DecidableEq α] {K : α → Val} {enc : α → PyData} {ok : α → Prop} {d : Nat} {x y : α} (e : Enc K enc ok d) (hd : d ≤ 64) (hx : ok x) (hy : ok y) : Op2 X n (compareOp .NotEq) (K x) (K y) (bV (!decide (x = y))) := by
  intro A N s a b E B ha hb
  obtain ⟨as, ra⟩ := e.reads ha
  obtain ⟨bs, rb⟩ := e.reads hb
  have hu : A.units + 64 < cLine := by have := B.lev.units; unfold cLine; omega
  refine ne_dataH ra rb (shaped_of e hd hx) (shaped_of e hd hy) hu ?_
  rw [e.eqv]; exact ⟨rfl, keeps_refl s⟩

/-! in, not in -/
def isI (k : Int) : Value → Bool
  | .int i _ => i == k
  | _ => false
def isS (k : Str) : Value → Bool
  | .str i _ => i == k
  | _ => false
theorem any_isI {N : List Addr} {h : Heap} {k : Int} {vs : List Value} {l : List Int} (hp : Paired (fun v x => (iV x).holds (vw N h) v) vs l) : vs.toArray.any (isI k) = l.contains k := by
  rw [List.any_toArray]
  induction hp with
  | nil => rfl
  | cons hv _ ih => obtain ⟨t, rfl⟩ := hv; rw [List.any_cons, ih, List.contains_cons]; congr 1; simp only [isI]; exact Bool.eq_iff_iff.mpr ⟨fun h => by simpa using (eq_of_beq h).symm, fun h => by simpa using (eq_of_beq h).symm⟩
theorem any_isS {N : List Addr} {h : Heap} {k : Str} {vs : List Value} {l : List Str} (hp : Paired (fun v x => (sV x).holds (vw N h) v) vs l) : vs.toArray.any (isS k) = l.contains k := by
  rw [List.any_toArray]
  induction hp with
  | nil => rfl
  | cons hv _ ih => obtain ⟨t, rfl⟩ := hv; rw [List.any_cons, ih, List.contains_cons]; congr 1; simp only [isS]; exact Bool.eq_iff_iff.mpr ⟨fun h => by simpa using (eq_of_beq h).symm, fun h => by simpa using (eq_of_beq h).symm⟩
theorem eqGives_str (a b : Str) (t u : Tok) : EqGives (.str a t) (.str b u) (a == b) := fun _ _ _ _ _ _ h => wpAny_eqBool_str h
theorem cmp_in_i {k : Int} {l : List Int} : Op2 X n (compareOp .In) (iV k) (lV iV l) (bV (l.contains k)) := by
  rintro A N s _ b E B ⟨t, rfl⟩ hb
  obtain ⟨a, vs, m, rfl, ha, ho, hp⟩ := lv_plain hb
  refine in_list (isI k) (fun y hy => ?_) ho ?_
  · have hy : y ∈ vs := by simpa using hy
    obtain ⟨i, u, rfl⟩ : ∃ i u, y = .int i u := (ints_of hp).allInts y (by simpa using hy)
    exact EqGives.int i k u t
  · rw [any_isI hp]; exact ⟨rfl, keeps_refl s⟩
theorem strs_of {N : List Addr} {h : Heap} {vs : List Value} {l : List Str} (hp : Paired (fun v x => (sV x).holds (vw N h) v) vs l) : StrsAre vs l := by
  induction hp with
  | nil => exact .nil
  | cons h _ ih => obtain ⟨t, rfl⟩ := h; exact .cons _ _ ih
theorem strs_all {vs : List Value} {l : List Str} (h : StrsAre vs l) : ∀ y ∈ vs, ∃ i u, y = Value.str i u := by
  induction h with
  | nil => intro y hy; cases hy
  | cons a t _ ih => intro y hy; rcases List.mem_cons.mp hy with rfl | hy; exact ⟨a, t, rfl⟩; exact ih y hy
theorem cmp_in_s {k : Str} {l : List Str} : Op2 X n (compareOp .In) (sV k) (lV sV l) (bV (l.contains k)) := by
  rintro A N s _ b E B ⟨t, rfl⟩ hb
  obtain ⟨a, vs, m, rfl, ha, ho, hp⟩ := lv_plain hb
  refine in_list (isS k) (fun y hy => ?_) ho ?_
  · obtain ⟨i, u, rfl⟩ := strs_all (strs_of hp) y (by simpa using hy)
    exact eqGives_str i k u t
  · rw [any_isS hp]; exact ⟨rfl, keeps_refl s⟩
theorem cmp_notin_s {k : Str} {l : List Str} : Op2 X n (compareOp .NotIn) (sV k) (lV sV l) (bV (!l.contains k)) := by
  rintro A N s _ b E B ⟨t, rfl⟩ hb
  obtain ⟨a, vs, m, rfl, ha, ho, hp⟩ := lv_plain hb
  refine notIn_list (isS k) (fun y hy => ?_) ho ?_
  · obtain ⟨i, u, rfl⟩ := strs_all (strs_of hp) y (by simpa using hy)
    exact eqGives_str i k u t
  · rw [any_isS hp]; exact ⟨rfl, keeps_refl s⟩

/-! list + list, list * int -/
theorem op_addL {α : Type} {K : α → Val} {l r : List α} (hlen : l.length + r.length ≤ 1000) : Op2 X n (binaryOp .Add) (lV K l) (lV K r) (lV K (l ++ r)) := by
  intro A N s a b E B ha hb
  obtain ⟨a, vs, k, rfl, _, ho, hp⟩ := lv_plain ha
  obtain ⟨b, ws, k', rfl, _, ho', hp'⟩ := lv_plain hb
  have e : vs.toArray ++ ws.toArray = (vs ++ ws).toArray := by simp
  have h1 := Paired.length hp
  have h2 := Paired.length hp'
  refine concat_meets ⟨_, ho, rfl⟩ ⟨_, ho', rfl⟩ noFill_list_add seq_list_add PySem.F.slot_list_add PySem.F.entry_list_add (PySem.F.args_list_add_2 _ _) (list_addW a b vs.toArray ws.toArray k k' none none #[] #[] (by rw [sizeLine_eq]; simp only [List.size_toArray]; omega)) ⟨ho, ho', ?_⟩
  rw [e]
  exact lv_push B (Paired.append hp hp')

theorem foldl_rep (a : Array Value) : ∀ (m : Nat) (b : Array Value), (List.foldl (fun x1 x2 => x1 ++ x2) b (List.replicate m a)).toList = b.toList ++ (List.replicate m a.toList).flatten
  | 0, b => by simp
  | m + 1, b => by
    rw [List.replicate_succ, List.foldl_cons, foldl_rep a m, List.replicate_succ, List.flatten_cons, Array.toList_append, List.append_assoc]
theorem paired_rep {α : Type} {F : Value → α → Prop} {vs : List Value} {l : List α} (h : Paired F vs l) : ∀ m : Nat, Paired F (List.replicate m vs).flatten (List.replicate m l).flatten
  | 0 => .nil
  | m + 1 => by
    rw [List.replicate_succ, List.replicate_succ, List.flatten_cons, List.flatten_cons]
    exact Paired.append h (paired_rep h m)
theorem op_mulL {α : Type} {K : α → Val} {l : List α} {x : Int} (hlen : l.length * x.toNat ≤ 1000) (hx : x ≤ 1000) (hx0 : -1000 ≤ x) : Op2 X n (binaryOp .Mult) (lV K l) (iV x) (lV K (List.replicate x.toNat l).flatten) := by
  rintro A N s a _ E B ha ⟨u, rfl⟩
  obtain ⟨a, vs, k, rfl, _, ho, hp⟩ := lv_plain ha
  have h1 := Paired.length hp
  have h3 : vs.toArray.size * x.toNat ≤ 1000 := by rw [List.size_toArray, h1]; exact hlen
  have h4 : vs.length * x.toNat ≤ 1000 := by rw [h1]; exact hlen
  refine wpAny_binaryOp_repeat_ref (T := "list") (U := "int") (by decide) ⟨_, ho, rfl⟩ (fun s' => typeIs_int s' x u) noFill_list_mul F.fills_int_mul F.slot_int_rmul repeat_list F.slot_int_index.lookup
    (call_meets F.slot_int_rmul (typeIs_int s x u) F.entry_int_rmul (F.args_int_rmul_2 _ _) (int___rmul___int_list x u a vs.toArray k)
      ⟨ho, rfl, ⟨_, ho, rfl⟩, call_meets F.slot_list_mul ⟨_, ho, rfl⟩ F.entry_list_mul (F.args_list_mul_2 _ _)
        (AutoListH.list___mul___list_int_3 a vs.toArray k x u (by simp [Builtin.List.listFitsIndex]; omega) (by omega) (by simp [Builtin.List.listTooLong, sizeLine]; omega))
        ⟨ho, ?_⟩⟩)
  have e : List.foldl (fun x1 x2 => x1 ++ x2) #[] (List.replicate (if vs.toArray.isEmpty = true then 0 else x.toNat) vs.toArray) = ((List.replicate x.toNat vs).flatten).toArray := by
    apply Array.toList_inj.mp
    rw [foldl_rep]
    cases vs with
    | nil =>
      have hz : ∀ m : Nat, (List.replicate m ([] : List Value)).flatten = [] := fun m => by simp
      simp [hz]
    | cons v vs => simp
  rw [e]
  exact lv_push B (paired_rep hp _)
end
end Mine
open PySem PySem.W PyProof.Rows PySem.MeetsSeq PySem.SeqRoads2
set_option Elab.async false
set_option autoImplicit false
set_option linter.unusedVariables false
namespace Mine
section
variable {X : Cx} {n : Nat} {sc : Scope} {ρ : Rho}

/-! slices -/
def pick {α : Type} (l : List α) (lo hi st : Option Int) : List α :=
  (sliceRange (sliceBounds lo hi st l.length).1 (sliceBounds lo hi st l.length).2.1 (sliceBounds lo hi st l.length).2.2).filterMap (l[·]?)
theorem Paired.getnone {α β : Type} {F : α → β → Prop} {l : List α} {r : List β} (h : Paired F l r) (i : Nat) (hi : l[i]? = none) : r[i]? = none := by
  rw [List.getElem?_eq_none_iff] at hi ⊢
  rw [← Paired.length h]; exact hi
theorem paired_places {α : Type} {F : Value → α → Prop} {vs : List Value} {l : List α} (h : Paired F vs l) : ∀ is : List Nat, Paired F (is.filterMap (vs[·]?)) (is.filterMap (l[·]?))
  | [] => .nil
  | i :: is => by
    simp only [List.filterMap_cons]
    cases hy : l[i]? with
    | none =>
      have : vs[i]? = none := by rw [List.getElem?_eq_none_iff] at hy ⊢; rw [Paired.length h]; exact hy
      rw [this]; exact paired_places h is
    | some y =>
      obtain ⟨v, hv, hF⟩ := Paired.get h i y hy
      rw [hv]; exact .cons hF (paired_places h is)

/-- a part of a slice -/
def EvPart (X : Cx) (n : Nat) (sc : Scope) (ρ : Rho) : Option Expr → Option Int → Prop
  | none, none => True
  | some e, some k => Ev X n sc ρ e (iV k)
  | _, _ => False
theorem evPart {oe : Option Expr} {k : Option Int} (h : EvPart X n sc ρ oe k) {A : Around} {env : Env} {N : List Addr} {s : Shared} {E : Value → Shared → Prop} (P : Pre X n sc ρ A env N s) :
    wpAny X.M A (valueOrNone (evalOpt oe env)) (fun v s' => IsPart v k ∧ Kp s s') E s := by
  cases oe with
  | none =>
    cases k with
    | none => exact wpAny_pure ⟨.none, keeps_refl s⟩
    | some k => exact h.elim
  | some e =>
    cases k with
    | none => exact h.elim
    | some k =>
      show wpAny X.M A (eval e env) _ E s
      refine wpAny_mono ((show Ev X n sc ρ e (iV k) from h).go A env N s E P) (fun v s' hv => ?_) fun _ _ e => e
      obtain ⟨⟨t, rfl⟩, k'⟩ := hv
      exact ⟨.int _ t, k'⟩

theorem Ev.slice {α : Type} {K : α → Val} {e : Expr} {lower upper step : Option Expr} {lo hi st : Option Int} {p pos : Pos} {l : List α} (he : Ev X n sc ρ e (wV K l)) (h1 : EvPart X n sc ρ lower lo) (h2 : EvPart X n sc ρ upper hi) (h3 : EvPart X n sc ρ step st)
    (h0 : st ≠ some 0) (hlen : l.length ≤ 1000) : Ev X n sc ρ (.Subscript e (.Slice lower upper step p) pos) (lV K (pick l lo hi st)) := .mk fun A env N s E P => by
  refine Subscript_ (wpAny_mono (he.go A env N s E P) (fun o s₁ ho => ?_) fun _ _ e => e)
  have P₁ := P.keeps ho.2
  show wpAny X.M A (do
    let l ← valueOrNone (evalOpt lower env)
    let u ← holding [l] (valueOrNone (evalOpt upper env))
    let s ← holding [l, u] (valueOrNone (evalOpt step env))
    newFields "slice" [l, u, s]) _ E s₁
  refine wpAny_bind (wpAny_mono (evPart h1 P₁) (fun a s₂ h₂ => ?_) fun _ _ e => e)
  have P₂ := P₁.keeps h₂.2
  refine wpAny_bind (wpAny_holding (wpAny_mono (evPart h2 P₂) (fun b s₃ h₃ => ?_) fun _ _ e => e))
  have P₃ := P₂.keeps h₃.2
  refine wpAny_bind (wpAny_holding (wpAny_mono (evPart h3 P₃) (fun c s₄ h₄ => ?_) fun _ _ e => e))
  have P₄ := P₃.keeps h₄.2
  have k14 := keeps_trans h₂.2 (keeps_trans h₃.2 h₄.2)
  obtain ⟨ad, ob, vs, m, rfl, ho', hc, hd, hp⟩ := (wV K l).mono _ _ _ (keeps_vw k14) ho.1
  have hlist : s₄.heap.IsList ad vs.toArray := ⟨ob, vw_get ho', hc, m, hd⟩
  refine wpAny_newObj_type ?_ (by show 3 ≤ _; rw [sizeLine_eq]; decide)
  have hpush : ∀ ad o, s₄.heap.get? ad = some o → (s₄.heap.push { cls := .type "slice", data := .fields #[a, b, c] }).get? ad = some o := fun _ _ e => Heap.get?_push_of_some _ e
  have hlist' : (s₄.heap.push { cls := .type "slice", data := .fields #[a, b, c] }).IsList ad vs.toArray := hlist.push _
  have hlen' : vs.toArray.size = l.length := by simpa using Paired.length hp
  have hsub : ∃ ops, subscripted (.Slice lower upper step p) false (.ref ad) (.ref s₄.heap.objs.size) = operate ops (getItem (.ref ad) (.ref s₄.heap.objs.size)) := by
    cases step with
    | none => exact ⟨_, rfl⟩
    | some e => exact ⟨_, rfl⟩
  obtain ⟨ops, hsub⟩ := hsub
  refine tail_any (T := "list") (Heap.IsList.typeIs (s := { s₄ with heap := s₄.heap.push { cls := .type "slice", data := .fields #[a, b, c] } }) hlist') slot_list_getitem.lookup (wpAny_getItem_list_slice hlist' (Heap.IsSliceOf.new ..) h₂.1 h₃.1 h₄.1 h0 ?_ (by rw [hlen', sizeLine_eq]; omega)) hsub
  have B₅ : Base X n A N { s₄ with heap := s₄.heap.push { cls := .type "slice", data := .fields #[a, b, c] } } := P₄.base.keeps keeps_push
  have hpick : slicePick vs.toArray lo hi st = ((sliceRange (sliceBounds lo hi st l.length).1 (sliceBounds lo hi st l.length).2.1 (sliceBounds lo hi st l.length).2.2).filterMap (vs[·]?)).toArray := by
    unfold slicePick; rw [hlen']; simp
  rw [hpick]
  have := lv_push B₅ (paired_places (paired_mono (vw_le hpush) hp) (sliceRange (sliceBounds lo hi st l.length).1 (sliceBounds lo hi st l.length).2.1 (sliceBounds lo hi st l.length).2.2))
  exact ⟨this.1, keeps_trans ho.2 (keeps_trans k14 (keeps_trans keeps_push this.2))⟩

theorem Ev.weak {α : Type} {K : α → Val} {e : Expr} {l : List α} (h : Ev X n sc ρ e (lV K l)) : Ev X n sc ρ e (wV K l) := .mk fun A env N s E P => by
  refine wpAny_mono (h.go A env N s E P) (fun v s' hv => ⟨?_, hv.2⟩) fun _ _ e => e
  obtain ⟨a, vs, k, rfl, ho, hp⟩ := hv.1
  exact ⟨a, _, vs, k, rfl, ho, rfl, rfl, hp⟩

/-! texts -/
theorem op_addS {x y : Str} (h : x.length + y.length ≤ 1000) : Op2 X n (binaryOp .Add) (sV x) (sV y) (sV (x ++ y)) := by
  rintro A N s _ _ E B ⟨t, rfl⟩ ⟨u, rfl⟩
  exact PyProof.Rows.add_str (fun t' tk => ⟨⟨_, rfl⟩, keeps_toks⟩) (by rw [sizeLine_eq]; omega)
theorem op_mulS {x : Str} {k : Int} (hk : 0 ≤ k) (hk2 : k ≤ 1000) (hx : x.length ≤ 1000) : Op2 X n (binaryOp .Mult) (sV x) (iV k) (sV (Txt.mul x k)) := by
  rintro A N s _ _ E B ⟨t, rfl⟩ ⟨u, rfl⟩
  refine SB.mul ⟨?_, fun h1 _ => ?_, fun h1 _ => ?_⟩ fun t' tk => ⟨⟨_, rfl⟩, keeps_toks⟩
  · simp; omega
  · have h3 : (x.length : Int) * k ≤ 1000 * 1000 := Int.mul_le_mul (by omega) hk2 hk (by omega)
    have h4 : (x.length : Int) ≤ (2 ^ 63 - 1) / k := Int.le_ediv_of_mul_le (by omega) (by omega)
    omega
  · have h3 : x.length * k.toNat ≤ 1000 * 1000 := Nat.mul_le_mul hx (by omega)
    unfold Builtin.Str.tooLong
    rw [sizeLine_eq]
    exact decide_eq_false (by omega)
theorem Ev.subS {e i : Expr} {x : Str} {k : Int} {c : Nat} {pos : Pos} (he : Ev X n sc ρ e (sV x)) (hi : Ev X n sc ρ i (iV k)) (h0 : 0 ≤ k) (hx : x.cps[k.toNat]? = some c) (hs : isSlice i = false) (hl : x.length ≤ 2 ^ 62) :
    Ev X n sc ρ (.Subscript e i pos) (sV ⟨#[c]⟩) := .mk fun A env N s E P => by
  refine Subscript_ (wpAny_mono (he.go A env N s E P) (fun o s₁ ho => ?_) fun _ _ e => e)
  refine wpAny_mono (hi.go A env N s₁ E (P.keeps ho.2)) (fun iv s₂ hiv => ?_) fun _ _ e => e
  obtain ⟨t, rfl⟩ := hiv.1
  obtain ⟨u, rfl⟩ := ho.1
  have hlt : k.toNat < x.length := by
    obtain ⟨h, _⟩ := Array.getElem?_eq_some_iff.mp hx
    exact h
  refine tail_any (T := "str") (typeIs_str _ _ _) F.slot_str_getitem.lookup (PyProof.Rows.getItem_str (c := c) ?_ ?_ ?_) (subscripted_plain hs _ _)
  · simp; omega
  · have : seqIndex? k x.length = some k.toNat := by
      unfold seqIndex?
      have h1 : ¬ k < 0 := by omega
      simp only [h1, if_false]
      rw [if_pos (by simp; omega)]
    rw [this]; exact hx
  · exact ⟨⟨_, rfl⟩, keeps_trans (keeps_trans ho.2 hiv.2) keeps_toks⟩
end
end Mine
open PySem PySem.W PyProof.Rows PySem.MeetsSeq PySem.SeqRoads2
set_option Elab.async false
set_option autoImplicit false
set_option linter.unusedVariables false
namespace Mine
section
variable {X : Cx} {n : Nat} {sc : Scope} {ρ : Rho}

/-- a value of the module's -/
def refV (a : Addr) : Val := ⟨fun _ v => v = .ref a, fun _ _ _ _ h => h⟩
theorem Ev.gname {f : Str} {a : Addr} {pos : Pos} (hf : (f, a) ∈ X.F) (hk : sc.names.lookup f = some .globalImplicit) (hdb : (f == ("__debug__" : Str)) = false) : Ev X n sc ρ (.Name f pos) (refV a) := .mk fun A env N s E P =>
  wpAny_Name (load_global P hk (P.base.gd.fn _ hf) ⟨rfl, keeps_refl s⟩) hdb

/-- the value has the method -/
def HasM (X : Cx) (n : Nat) (name : Str) (id : String) (V : Val) : Prop :=
  ∀ (A : Around) (N : List Addr) (s : Shared) (ov : Value) (pl : Sem Bool) (Q : Value × List Value → Shared → Prop) (E : Value → Shared → Prop), Base X n A N s → V.holds (vw N s.heap) ov → Q (.builtin id, [ov]) s → wpAny X.M A (getMethod ov name pl) Q E s

theorem Ev.meth {o e : Expr} {name : Str} {id : String} {apos pos : Pos} {es : List Expr} {Vo V : Val} {Vs : List Val} (ho : Ev X n sc ρ o Vo) (hargs : EvAll X n sc ρ (fun V : Val => V) (e :: es) Vs) (hm : HasM X n name id Vo) (hf : Fn X n (.builtin id) (Vo :: Vs) V)
    (he : ∀ env : Env, eval (.Call (.Attribute o name apos) (e :: es) [] pos) env = (do
      let ov ← eval o env
      standAt apos.atName
      let (f, first) ← holding [ov] (getMethod ov name (do return (← importBound o env).getD true))
      callWith pos f first (backTo pos (starEach (e :: es) env)) []) := by intro _; rfl) : Ev X n sc ρ (.Call (.Attribute o name apos) (e :: es) [] pos) V := .mk fun A env N s E P => by
  refine MethodCall_ (pl := do return (← importBound o env).getD true) ?_ (he env)
  refine wpAny_mono (ho.go A env N s E P) (fun ov s₁ hv => ?_) fun _ _ e => e
  have P₁ := P.keeps hv.2
  refine hm A N s₁ ov _ _ E P₁.base hv.1 ?_
  refine Calls.callWith_builtin (any_false hargs) ?_
  have h0 := hargs
  cases h0 with
  | cons he' _ =>
    have hsp := spliced_all (A := A) (env := env) (N := N) (s := s₁) (E := E) (pos := pos) hargs P₁
    rw [starEach_cons he'.1, backTo_cons] at hsp ⊢
    refine Calls.evalArgs_plain (wpAny_mono hsp (fun vs s₂ hvs => ?_) fun _ _ e => e)
    exact res_mono (keeps_trans hv.2 hvs.2) (hf.go A N s₂ (ov :: vs) E (P₁.base.keeps hvs.2) (.cons (Vo.mono _ _ _ (keeps_vw hvs.2) hv.1) hvs.1))

set_option maxRecDepth 20000 in
theorem hasM_split {x : Str} : HasM X n "split" "str.split" (sV x) := by
  rintro A N s _ pl Q E B ⟨t, rfl⟩ h; exact GM.split h
set_option maxRecDepth 20000 in
theorem hasM_join {x : Str} : HasM X n "join" "str.join" (sV x) := by
  rintro A N s _ pl Q E B ⟨t, rfl⟩ h; exact GM.join h
theorem hasM_count {α : Type} {K : α → Val} {l : List α} : HasM X n "count" "list.count" (lV K l) := by
  intro A N s ov pl Q E B hv h
  obtain ⟨a, vs, k, rfl, ha, ho, hp⟩ := lv_plain hv
  exact getMethod_list_of (items := vs.toArray) F.slot_list_count F.type_list_count ⟨_, ho, rfl, k, rfl⟩ ⟨_, ho, rfl⟩ h

theorem countIn_eq (k : Str) : ∀ ys : List Str, Spec.countIn (.str k) (ys.map PyData.str) = (ys.count k : Nat)
  | [] => rfl
  | y :: ys => by
    rw [List.map_cons, Spec.countIn, countIn_eq k ys, List.count_cons]
    by_cases h : y = k
    · subst h; simp [Spec.same]; omega
    · simp [Spec.same, h]
theorem fn_count {k : Str} {l : List Str} : Fn X n (.builtin "list.count") [lV sV l, sV k] (iV (l.count k : Nat)) := by
  refine ⟨?_⟩
  intro A N s vs E B hp
  cases hp with
  | cons h h' => cases h' with | cons h2 h3 =>
    cases h3
    obtain ⟨t, rfl⟩ := h2
    obtain ⟨a, us, rfl, _, hl, hq⟩ := lv_list h
    refine count_list_strs hl (strs_of hq) ?_
    rw [countIn_eq]
    exact ⟨⟨_, rfl⟩, keeps_toks⟩

theorem paired_strs {N : List Addr} {h : Heap} : ∀ {l : List (Str × Tok)}, Paired (fun v x => (sV x).holds (vw N h) v) (strValues l) (l.map (·.1))
  | [] => .nil
  | (x, t) :: l => .cons ⟨t, rfl⟩ paired_strs
theorem fn_split {x y : Str} (hy : (y.length == 0) = false) (hx : x.length ≤ 10000) : Fn X n (.builtin "str.split") [sV x, sV y] (lV sV (Txt.split x y)) := by
  refine ⟨?_⟩
  intro A N s vs E B hp
  cases hp with
  | cons h h' => cases h' with | cons h2 h3 =>
    cases h3
    obtain ⟨t, rfl⟩ := h
    obtain ⟨u, rfl⟩ := h2
    have fin : ∀ (l : List (Str × Tok)) (tk : Nat), l.map (·.1) = Txt.split x y → Res N s (lV sV (Txt.split x y)) (.ref s.heap.objs.size) { s with heap := s.heap.push { cls := .type "list", data := .seq (strValues l).toArray }, toks := tk } := fun l tk e => by
      rw [← e]
      have := lv_push (X := X) (n := n) (K := sV) B (vs := strValues l) (l := l.map (·.1)) paired_strs
      exact ⟨this.1, keeps_trans this.2 keeps_toks⟩
    have hsz : x.length ≤ sizeLine := by rw [sizeLine_eq]; omega
    cases h1 : (decide (x.length < y.length) || decide (Builtin.Str.strKind x < Builtin.Str.strKind y))
    · cases hf : (Builtin.Str.occurrences x y 0 x.length (x.length + 1)).isEmpty
      · have hsp : Txt.split x y = Builtin.Str.partsBetween x (Builtin.Str.occurrences x y 0 x.length (x.length + 1)) y.length := by unfold Txt.split; rw [h1, hf]; rfl
        have hsz2 : (Builtin.Str.partsBetween x (Builtin.Str.occurrences x y 0 x.length (x.length + 1)) y.length).length ≤ sizeLine := by rw [← hsp, sizeLine_eq]; have := split_le x y; omega
        refine call_meets F.slot_str_split (typeIs_str _ _ _) F.entry_str_split (F.args_str_split_2 _ _) (meets_str_split_sep x y t u h1 hy hf hsz hsz2) ?_
        show wants _ E _ { s with toks := _, heap := s.heap.push { cls := .type "list", data := .seq (strsFrom s.toks (Builtin.Str.partsBetween x (Builtin.Str.occurrences x y 0 x.length (x.length + 1)) y.length)).toArray } }
        rw [strsFrom_eq]
        exact fin (numbered s.toks _) _ ((numbered_texts _ _).trans hsp.symm)
      · have hsp : Txt.split x y = [x] := by unfold Txt.split; rw [h1, hf]; rfl
        exact call_meets F.slot_str_split (typeIs_str _ _ _) F.entry_str_split (F.args_str_split_2 _ _) (meets_str_split_not_found x y t u h1 hy hf) (fin [(x, t)] s.toks hsp.symm)
    · have hsp : Txt.split x y = [x] := by unfold Txt.split; rw [h1]; rfl
      exact call_meets F.slot_str_split (typeIs_str _ _ _) F.entry_str_split (F.args_str_split_2 _ _) (meets_str_split_cannot_occur x y t u h1) (fin [(x, t)] s.toks hsp.symm)

theorem fn_join {x : Str} {l : List Str} (hx : x.length ≤ 16) (hl : (l.map (·.length)).sum + l.length ≤ 10000) : Fn X n (.builtin "str.join") [sV x, lV sV l] (sV (Txt.join x l)) := by
  refine ⟨?_⟩
  intro A N s vs E B hp
  cases hp with
  | cons h h' => cases h' with | cons h2 h3 =>
    cases h3
    obtain ⟨t, rfl⟩ := h
    obtain ⟨a, us, rfl, _, hlist, hq⟩ := lv_list h2
    exact join_listW hlist (strs_of hq) hx (by omega) fun t' k => ⟨⟨_, rfl⟩, keeps_toks⟩

/-- a table of the module's: ints to texts -/
theorem hasM_get {a : Addr} {D : List (PyData × PyData)} (T : ∀ h, X.K.In h → IntTab X.prog X.w h a D) : HasM X n "get" "dict.get" (refV a) := by
  rintro A N s _ pl Q E B rfl h
  exact getMethod_intTab_get (T _ B.gd.frag) h
theorem fn_get {a : Addr} {D : List (PyData × PyData)} {i : Int} {x y : Str} (T : ∀ h, X.K.In h → IntTab X.prog X.w h a D) (hy : (Spec.lookup (.int i) D).getD (.str x) = .str y) : Fn X n (.builtin "dict.get") [refV a, iV i, sV x] (sV y) := by
  refine ⟨?_⟩
  intro A N s vs E B hp
  cases hp with
  | cons h h' => cases h' with | cons h2 h3 => cases h3 with | cons h4 h5 =>
    cases h5
    obtain rfl := h
    obtain ⟨t, rfl⟩ := h2
    obtain ⟨u, rfl⟩ := h4
    refine call_get2_intTab (T _ B.gd.frag) (PyProof.V.Flat.str x u) fun v hv => ?_
    rw [hy] at hv
    have := hv s.heap
    cases this
    exact ⟨⟨_, rfl⟩, keeps_toks⟩
end
end Mine
open PySem PySem.W PyProof.Rows PySem.MeetsSeq PySem.SeqRoads2
set_option Elab.async false
set_option autoImplicit false
set_option linter.unusedVariables false
namespace Mine
/-! sorting ints -/
def ins (a : Int) : List Int → List Int
  | [] => [a]
  | b :: l => if a ≤ b then a :: b :: l else b :: ins a l
def isort : List Int → List Int
  | [] => []
  | a :: l => ins a (isort l)
theorem ins_perm (a : Int) : ∀ l : List Int, (ins a l).Perm (a :: l)
  | [] => .refl _
  | b :: l => by
    unfold ins
    split
    · exact .refl _
    · exact ((ins_perm a l).cons b).trans (List.Perm.swap a b l)
theorem isort_perm : ∀ l : List Int, (isort l).Perm l
  | [] => .refl _
  | a :: l => (ins_perm a (isort l)).trans ((isort_perm l).cons a)
theorem ins_sorted (a : Int) : ∀ l : List Int, l.Pairwise (· ≤ ·) → (ins a l).Pairwise (· ≤ ·)
  | [], _ => List.pairwise_singleton ..
  | b :: l, h => by
    obtain ⟨h1, h2⟩ := List.pairwise_cons.mp h
    unfold ins
    split
    · rename_i hab
      refine List.pairwise_cons.mpr ⟨fun c hc => ?_, h⟩
      rcases List.mem_cons.mp hc with rfl | hc
      · exact hab
      · exact Int.le_trans hab (h1 c hc)
    · rename_i hab
      refine List.pairwise_cons.mpr ⟨fun c hc => ?_, ins_sorted a l h2⟩
      rcases List.mem_cons.mp ((ins_perm a l).mem_iff.mp hc) with rfl | hc
      · omega
      · exact h1 c hc
theorem isort_sorted : ∀ l : List Int, (isort l).Pairwise (· ≤ ·)
  | [] => List.Pairwise.nil
  | a :: l => ins_sorted a _ (isort_sorted l)
theorem sorted_unique : ∀ {l r : List Int}, l.Perm r → l.Pairwise (· ≤ ·) → r.Pairwise (· ≤ ·) → l = r
  | [], r, hp, _, _ => (List.nil_perm.mp hp).symm ▸ rfl
  | a :: l, [], hp, _, _ => absurd hp.length_eq (by simp)
  | a :: l, b :: r, hp, hl, hr => by
    obtain ⟨h1, h2⟩ := List.pairwise_cons.mp hl
    obtain ⟨h3, h4⟩ := List.pairwise_cons.mp hr
    have hab : a ≤ b := by
      rcases List.mem_cons.mp (hp.mem_iff.mpr (List.mem_cons_self (a := b) (l := r))) with e | h
      · omega
      · exact h1 b h
    have hba : b ≤ a := by
      rcases List.mem_cons.mp (hp.mem_iff.mp (List.mem_cons_self (a := a) (l := l))) with e | h
      · omega
      · exact h3 a h
    obtain rfl : a = b := by omega
    rw [sorted_unique (List.Perm.cons_inv hp) h2 h4]

section
variable {X : Cx} {n : Nat}
theorem paired_of_ints {N : List Addr} {h : Heap} {vs : List Value} {l : List Int} (hi : IntsAre vs l) : Paired (fun v x => (iV x).holds (vw N h) v) vs l := by
  induction hi with
  | nil => exact .nil
  | cons a t _ ih => exact .cons ⟨t, rfl⟩ ih
theorem fn_sorted {l : List Int} (hlen : l.length < 64) : Fn X n (.builtin "sorted") [lV iV l] (lV iV (isort l)) := by
  refine ⟨?_⟩
  intro A N s vs E B hp
  cases hp with
  | cons h h' =>
    cases h'
    obtain ⟨a, us, rfl, _, hl, hq⟩ := lv_list h
    have hI := ints_of hq
    refine res_of (sorted_ints hl hI (by rw [Paired.length hq]; exact hlen) fun out ns' a1 a2 a3 => ?_)
    obtain ⟨e, he⟩ := sortedAll_at s.heap us out
    have hu : ns' = isort l := sorted_unique (a2.trans (isort_perm l).symm) a3 (isort_sorted l)
    subst hu
    refine ⟨?_, _, s.toks, rfl, fun b o e => sortedAll_old e⟩
    exact ⟨_, out.toList, e, rfl, vw_some.mpr ⟨B.fresh (Nat.le_succ _), he⟩, paired_of_ints a1⟩
end
end Mine
open PySem PySem.W PyProof.Rows PySem.MeetsSeq PySem.SeqRoads2
set_option Elab.async false
set_option autoImplicit false
set_option linter.unusedVariables false
namespace Mine

theorem mem_of {l : List Str} {x : Str} (h : l.contains x = true) : x ∈ l := by simpa using h

/-- what stays through a def's body -/
structure Frm (X : Cx) (n : Nat) (sc : Scope) (own : List Str) where
  A : Around
  env : Env
  N : List Addr
  s₀ : Shared

/-- what is known of the items of a list that the frame alone holds -/
structure OwnP where
  P : View → List Value → Prop
  mono : ∀ g g' vs, VLe g g' → P g vs → P g' vs
def listP {α : Type} (J : α → Val) (l : List α) : OwnP := ⟨fun g vs => Paired (fun v x => (J x).holds g v) vs l, fun _ _ _ h hp => paired_mono h hp⟩

section
variable {X : Cx} {n : Nat} {sc : Scope} {own : List Str}
abbrev Frm.isOwn (F : Frm X n sc own) : Addr → Prop := Mine.isOwn sc F.env own

/-- a def's frame: Nv what no value may lean on, ω the lists that the frame alone holds; sr an earlier state, from which only own things and Nw have changed -/
structure FS (F : Frm X n sc own) (Nv : List Addr) (ω : List (Addr × OwnP)) (ρ : Rho) (sr : Shared) (Nw : List Addr) (s : Shared) : Prop where
  cst : CSt X n sc F.A F.env own F.N F.s₀ Nv ρ s
  mine : ∀ p ∈ ω, p.1 ∈ Nv ∧ F.s₀.heap.objs.size ≤ p.1 ∧ ∃ vs, s.heap.PlainList p.1 vs.toArray ∧ p.2.P (vw Nv s.heap) vs
  dist : (ω.map (·.1)).Nodup
  mv : KpB (fun b => F.isOwn b ∨ b ∈ Nw) sr s
  old : ∀ p ∈ ω, p.1 ∈ Nw ∨ sr.heap.objs.size ≤ p.1

end
section
variable {X : Cx} {n : Nat} {sc : Scope} {own : List Str} {F : Frm X n sc own} {Nv Nw : List Addr} {ω : List (Addr × OwnP)} {ρ : Rho} {sr s s' : Shared}

theorem FS.keeps (S : FS F Nv ω ρ sr Nw s) (k : Kp s s') : FS F Nv ω ρ sr Nw s' :=
  ⟨S.cst.keeps k, fun p hp => let ⟨h1, h2, vs, h3, h4⟩ := S.mine p hp; ⟨h1, h2, vs, h3.at fun o e => keeps_get k _ o e, p.2.mono _ _ _ (keeps_vw k) h4⟩, S.dist, S.mv.trans (KpB.of k), S.old⟩

theorem plain_data {h : Heap} {a : Addr} {xs : Array Value} (hp : h.PlainList a xs) {o : Obj} (e : h.get? a = some o) : isData o = true := by
  obtain ⟨k, he⟩ := hp
  rw [e] at he; cases he; rfl

theorem FS.store {x : Str} {V : Val} {v : Value} {E : Value → Shared → Prop} (S : FS F Nv ω ρ sr Nw s) (hx : x ∈ own) (hx0 : (x == (".0" : Str)) = false) (hv : V.holds (vw Nv s.heap) v) :
    wpAny X.M F.A (storeName F.env x v) (fun _ s' => FS F Nv ω (upd ρ x V) sr Nw s' ∧ KpB F.isOwn s s') E s := by
  refine wpAny_mono (S.cst.store hx hv hx0) (fun _ s' hr => ?_) fun _ _ e => e
  obtain ⟨hc, k⟩ := hr
  refine ⟨⟨hc, fun p hp => ?_, S.dist, S.mv.trans (k.mono fun b h => .inl h), S.old⟩, k⟩
  obtain ⟨h1, h2, vs, h3, h4⟩ := S.mine p hp
  refine ⟨h1, h2, vs, h3.at fun o e => k.get _ o (fun h => ?_) e, p.2.mono _ _ _ (vw_but k fun b o h _ e => isOwn_data S.cst h e) h4⟩
  have := isOwn_data S.cst h e
  rw [plain_data h3 e] at this; cases this

/-- x = e -/
theorem ex_assign {x : Str} {px pos : Pos} {e : Expr} {V : Val} {rest : List Stmt} {Q : Flow → Shared → Prop} {E : Value → Shared → Prop} (S : FS F Nv ω ρ sr Nw s) (he : Ev X n sc ρ e V) (hx : own.contains x = true) (hx0 : (x == (".0" : Str)) = false)
    (hsw : swapsWith e (some (.Name x px)) pos.line F.env = pure false)
    (k : ∀ s', FS F Nv ω (upd ρ x V) sr Nw s' → wpAny X.M F.A (execs rest F.env) Q E s') : wpAny X.M F.A (execs (.Assign [.Name x px] e pos :: rest) F.env) Q E s := by
  refine wpAny_execs_cons (wpAny_Assign_Name (wpAny_mono (he.go F.A F.env Nv s E S.cst.pre) (fun v s₁ hv => ?_) fun _ _ e => e) hsw)
  exact wpAny_mono ((S.keeps hv.2).store (mem_of hx) hx0 hv.1) (fun _ s₂ h₂ => k s₂ h₂.1) fun _ _ e => e

/-- a change at an address that is none of the frame's and bears no data -/
theorem FS.letGo {C : Addr} {h' : Heap} (S : FS F Nv ω ρ sr Nw s) (hC : C ∉ Nv) (hs₀ : F.s₀.heap.objs.size ≤ C) (hsr : sr.heap.objs.size ≤ C) (ho : ¬ F.isOwn C) (hn : ∃ m, s.heap.Ns C m) (hs : Heap.SameBut C s.heap h') : FS F Nv ω ρ sr Nw { s with heap := h' } := by
  have k : KpB (· = C) s { s with heap := h' } := KpB.same_but (tk := s.toks) hs
  have hdat : ∀ o, s.heap.get? C = some o → isData o = false := fun o e => by
    obtain ⟨m, o', es, ep, ho', hd, _⟩ := hn
    rw [e] at ho'; cases ho'
    unfold isData; rw [hd]
  have hv : VLe (vw Nv s.heap) (vw Nv h') := vw_but k fun b o e _ e' => hdat o (e ▸ e')
  refine ⟨⟨S.cst.base₀, S.cst.is, ?_, S.cst.sub, S.cst.newN, fun a ha => Nat.lt_of_lt_of_le (S.cst.live a ha) k.size, ?_, S.cst.nsNew, ?_, S.cst.kinds, S.cst.apart, S.cst.free, ?_⟩, ?_, S.dist, ?_, S.old⟩
  · refine ⟨?_, Nat.le_trans S.cst.kept.size k.size⟩
    obtain ⟨h1, t1, e1, _⟩ := S.cst.kept.keeps
    refine ⟨h', s.toks, by rw [e1], fun b o e => ?_⟩
    exact k.get b o (fun h => absurd (Heap.lt_size e) (Nat.not_lt.mpr (h ▸ hs₀))) (keeps_get S.cst.kept b o e)
  · obtain ⟨m, h⟩ := S.cst.ns
    exact ⟨m, h.sameBut hs fun e => ho (e ▸ .inl rfl)⟩
  · intro z hz hk
    obtain ⟨c, v, h1, h2, h3⟩ := S.cst.cell z hz hk
    exact ⟨c, v, h1, h2.sameBut hs fun e => ho (e ▸ .inr ⟨z, hz, hk, h1⟩), h3⟩
  · intro z V hz h2 h3
    obtain ⟨v, hv', hb⟩ := S.cst.mine z V hz h2 h3
    refine ⟨v, V.mono _ _ _ hv hv', ?_⟩
    rcases hb with ⟨hl, m, hn', hm⟩ | ⟨hl, c, hc, hcell⟩
    · exact .inl ⟨hl, m, hn'.sameBut hs fun e => ho (e ▸ .inl rfl), hm⟩
    · refine .inr ⟨hl, c, hc, hcell.sameBut hs fun e => ?_⟩
      rcases S.cst.kinds z h3 with h | h
      · rw [S.cst.is.kindOf, h] at hl; rcases hl with hl | hl <;> cases hl
      · exact ho (e ▸ .inr ⟨z, h3, h, hc⟩)
  · intro p hp
    obtain ⟨h1, h2, vs, h3, h4⟩ := S.mine p hp
    exact ⟨h1, h2, vs, h3.at fun o e => k.get _ o (fun h => hC (h ▸ h1)) e, p.2.mono _ _ _ hv h4⟩
  · refine ⟨?_, fun b o hb e => ?_, Nat.le_trans S.mv.size k.size⟩
    · obtain ⟨h1, t1, e1⟩ := S.mv.same
      exact ⟨h', s.toks, by rw [e1]⟩
    · exact k.get b o (fun h => absurd (Heap.lt_size e) (Nat.not_lt.mpr (h ▸ hsr))) (S.mv.get b o hb e)

/-- x = [.. for ..], x a local name of the same line: the list is stored ahead of the comprehension's end -/
theorem ex_assignC {x : Str} {px pos cpos : Pos} {elt iter target : Expr} {ifs : List Expr} {crest : List Comprehension} {scope : Scope} {V : Val} {rest : List Stmt} {Q : Flow → Shared → Prop} {E : Value → Shared → Prop} (S : FS F Nv ω ρ sr Nw s)
    (he : Cp X n sc ρ (.ListComp elt (⟨target, iter, ifs, 0⟩ :: crest) scope cpos) scope iter V) (hx : own.contains x = true) (hx0 : (x == (".0" : Str)) = false)
    (hsw : swapsWith (.ListComp elt (⟨target, iter, ifs, 0⟩ :: crest) scope cpos) (some (.Name x px)) pos.line F.env = pure true)
    (k : ∀ s', FS F Nv ω (upd ρ x V) sr Nw s' → wpAny X.M F.A (execs rest F.env) Q E s') : wpAny X.M F.A (execs (.Assign [.Name x px] (.ListComp elt (⟨target, iter, ifs, 0⟩ :: crest) scope cpos) pos :: rest) F.env) Q E s := by
  refine wpAny_execs_cons ?_
  rw [exec_Assign_Name_used _ _ _ _ hsw]
  refine wpAny_bind (wpAny_standAt (wpAny_bind ?_))
  show wpAny _ F.A (do let _ ← comprehension (.ListComp elt (⟨target, iter, ifs, 0⟩ :: crest) scope cpos) scope F.env _ (newList []) false (eval iter F.env) (some (PySem.assign (.Name x px) F.env))) _ _ s
  refine wpAny_bind (wpAny_mono (he.go F.A F.env Nv s E (fun _ s' => FS F Nv ω (upd ρ x V) sr Nw s') (some (PySem.assign (.Name x px) F.env)) _ S.cst.pre fun D C s' hr hC hne hn => ?_) (fun _ s' hq => wpAny_pure (wpAny_pure (k s' hq))) fun _ _ e => e)
  show wpAny X.M F.A (PySem.assign (.Name x px) F.env (.ref D)) _ E s'
  have S' := S.keeps hr.2
  have hoC : ¬ F.isOwn C := fun h => absurd (isOwn_lt S.cst h) (Nat.not_lt.mpr hC)
  refine wpAny_assign_Name (wpAny_mono (S'.store (mem_of hx) hx0 hr.1) (fun _ s'' h2 => ?_) fun _ _ e => e)
  obtain ⟨S'', k''⟩ := h2
  have hn'' : ∃ m, s''.heap.Ns C m := by obtain ⟨m, h⟩ := hn; exact ⟨m, h.at' fun o e => k''.get C o hoC e⟩
  obtain ⟨m, hm⟩ := hn''
  refine ⟨m, hm, fun h' hs' => S''.letGo (fun hm => absurd (S.cst.live C hm) (Nat.not_lt.mpr hC)) (Nat.le_trans S.cst.kept.size hC) (Nat.le_trans S.mv.size hC) hoC ⟨m, hm⟩ hs'⟩

/-- if -/
theorem ex_if {t : Expr} {body orelse rest : List Stmt} {pos : Pos} {b : Bool} {Q : Flow → Shared → Prop} {E : Value → Shared → Prop} (S : FS F Nv ω ρ sr Nw s) (ht : EvT X n sc ρ t b)
    (h₁ : b = true → ∀ s', FS F Nv ω ρ sr Nw s' → wpAny X.M F.A (execs body F.env) (fun f s'' => match f with | .next => wpAny X.M F.A (execs rest F.env) Q E s'' | f => Q f s'') E s')
    (h₂ : b = false → ∀ s', FS F Nv ω ρ sr Nw s' → wpAny X.M F.A (execs orelse F.env) (fun f s'' => match f with | .next => wpAny X.M F.A (execs rest F.env) Q E s'' | f => Q f s'') E s') :
    wpAny X.M F.A (execs (.If t body orelse pos :: rest) F.env) Q E s := by
  refine wpAny_execs_cons (wpAny_If (wpAny_mono (ht.go F.A F.env Nv s E S.cst.pre) (fun r s₁ hr => ?_) fun _ _ e => e))
  obtain ⟨rfl, k⟩ := hr
  cases r with
  | true => exact h₁ rfl s₁ (S.keeps k)
  | false => exact h₂ rfl s₁ (S.keeps k)

/-- return e -/
theorem ex_return {e : Expr} {pos : Pos} {V : Val} {rest : List Stmt} {Q : Flow → Shared → Prop} {E : Value → Shared → Prop} (S : FS F Nv ω ρ sr Nw s) (he : Ev X n sc ρ e V)
    (k : ∀ v s', V.holds (vw Nv s'.heap) v → FS F Nv ω ρ sr Nw s' → Q (.ret v) s') : wpAny X.M F.A (execs (.Return (some e) pos :: rest) F.env) Q E s := by
  refine wpAny_execs_cons (wpAny_Return_some (wpAny_mono (he.go F.A F.env Nv s E S.cst.pre) (fun v s₁ hv => ?_) fun _ _ e => e))
  exact k v s₁ hv.1 (S.keeps hv.2)

theorem ex_nil {Q : Flow → Shared → Prop} {E : Value → Shared → Prop} (h : Q .next s) : wpAny X.M F.A (execs [] F.env) Q E s := wpAny_execs_nil h
theorem ex_break {pos : Pos} {rest : List Stmt} {Q : Flow → Shared → Prop} {E : Value → Shared → Prop} (h : Q .brk s) : wpAny X.M F.A (execs (.Break pos :: rest) F.env) Q E s :=
  wpAny_execs_cons (fun _ _ _ => h)

/-- x op= e -/
theorem ex_aug {x : Str} {px pos : Pos} {op : Operator} {e : Expr} {V₁ V₂ V : Val} {rest : List Stmt} {Q : Flow → Shared → Prop} {E : Value → Shared → Prop} (S : FS F Nv ω ρ sr Nw s) (h₁ : ρ x = some V₁) (hs : (sees sc x && okName x) = true) (he : Ev X n sc ρ e V₂)
    (ho : Op2 X n (inplaceOp op) V₁ V₂ V) (hx : own.contains x = true) (hx0 : (x == (".0" : Str)) = false)
    (k : ∀ s', FS F Nv ω (upd ρ x V) sr Nw s' → wpAny X.M F.A (execs rest F.env) Q E s') : wpAny X.M F.A (execs (.AugAssign (.Name x px) op e pos :: rest) F.env) Q E s := by
  have P := S.cst.pre
  obtain ⟨g1, g2⟩ := Bool.and_eq_true_iff.mp hs
  obtain ⟨v, hv, hb⟩ := P.ok x V₁ h₁ (by rw [P.is.eq]; exact g1)
  obtain ⟨_, g4⟩ := Bool.and_eq_true_iff.mp g2
  refine wpAny_execs_cons (wpAny_AugAssign_Name (loadName_bound (X := X) (by rw [P.is.eq]; exact P.is.kind) hb (by simpa using g4) ?_))
  refine wpAny_mono (he.go F.A F.env Nv s E P) (fun u s₁ hu => ?_) fun _ _ e => e
  refine wpAny_mono (ho F.A Nv s₁ v u E (P.base.keeps hu.2) (V₁.mono _ _ _ (keeps_vw hu.2) hv) hu.1) (fun r s₂ hr => ?_) fun _ _ e => e
  exact wpAny_mono ((S.keeps (keeps_trans hu.2 hr.2)).store (mem_of hx) hx0 hr.1) (fun _ s₃ h₃ => k s₃ h₃.1) fun _ _ e => e
end
end Mine
open PySem PySem.W PyProof.Rows PySem.MeetsSeq PySem.SeqRoads2
set_option Elab.async false
set_option autoImplicit false
set_option linter.unusedVariables false
namespace Mine
section
variable {X : Cx} {n : Nat} {sc : Scope} {own : List Str} {F : Frm X n sc own} {Nv Nw : List Addr} {ω : List (Addr × OwnP)} {ρ : Rho} {sr s s' : Shared}

/-- x = [..]: a list that the frame alone holds -/
theorem ex_own {x : Str} {px pos lpos : Pos} {es : List Expr} {α : Type} {K : α → Val} {l : List α} {rest : List Stmt} {Q : Flow → Shared → Prop} {E : Value → Shared → Prop} (S : FS F Nv ω ρ sr Nw s) (he : EvAll X n sc ρ K es l) (hlen : l.length ≤ 1000)
    (hx : own.contains x = true) (hx0 : (x == (".0" : Str)) = false)
    (k : ∀ D s', D ∉ ω.map (·.1) → FS F (D :: Nv) ((D, listP K l) :: ω) (upd ρ x (refV D)) sr Nw s' → wpAny X.M F.A (execs rest F.env) Q E s')
    (hsw : swapsWith (.List es lpos) (some (.Name x px)) pos.line F.env = pure false := by rfl) : wpAny X.M F.A (execs (.Assign [.Name x px] (.List es lpos) pos :: rest) F.env) Q E s := by
  refine wpAny_execs_cons (wpAny_Assign_Name (wpAny_List (wpAny_mono (spliced_all he S.cst.pre) (fun vs s₁ hv => ?_) fun _ _ e => e)) hsw)
  refine ⟨by rw [Paired.length hv.1, sizeLine_eq]; omega, ?_⟩
  have S₁ := S.keeps hv.2
  have B₁ := S₁.cst.pre.base
  have hfresh : s₁.heap.objs.size ∉ Nv := B₁.fresh (Nat.le_refl _)
  have hnew : ∀ b o, s₁.heap.get? b = some o → b ∉ Nv → b ∉ s₁.heap.objs.size :: Nv := fun b o e hb hm => by
    rcases List.mem_cons.mp hm with rfl | hm
    · exact absurd (Heap.lt_size e) (Nat.lt_irrefl _)
    · exact hb hm
  have kp : Kp s₁ { s₁ with heap := s₁.heap.push { cls := .type "list", data := .seq vs.toArray } } := keeps_push
  have hview : VLe (vw Nv s₁.heap) (vw (s₁.heap.objs.size :: Nv) (s₁.heap.push { cls := .type "list", data := .seq vs.toArray })) := fun b o e _ => by
    obtain ⟨e1, e2⟩ := vw_some.mp e
    exact vw_some.mpr ⟨hnew b o e2 e1, keeps_get kp b o e2⟩
  have hlt : s₁.heap.objs.size < (s₁.heap.push { cls := .type "list", data := .seq vs.toArray }).objs.size := by rw [Heap.size_push]; exact Nat.lt_succ_self _
  have hω : s₁.heap.objs.size ∉ ω.map (·.1) := fun hm => by
    obtain ⟨p, hp, e⟩ := List.mem_map.mp hm
    exact hfresh (e ▸ (S₁.mine p hp).1)
  have S₂ : FS F (s₁.heap.objs.size :: Nv) ((s₁.heap.objs.size, listP K l) :: ω) ρ sr Nw { s₁ with heap := s₁.heap.push { cls := .type "list", data := .seq vs.toArray } } := by
    refine ⟨S₁.cst.extend kp (Nat.le_refl _) hlt, fun p hp => ?_, ?_, S₁.mv.trans (KpB.of kp), fun p hp => ?_⟩
    · rcases List.mem_cons.mp hp with rfl | hp
      · exact ⟨List.mem_cons_self, S₁.cst.kept.size, vs, ⟨0, Heap.get?_push_size _ rfl⟩, paired_mono hview hv.1⟩
      · obtain ⟨h1, h2, ws, h3, h4⟩ := S₁.mine p hp
        exact ⟨List.mem_cons_of_mem _ h1, h2, ws, h3.at fun o e => keeps_get kp _ o e, p.2.mono _ _ _ hview h4⟩
    · rw [List.map_cons, List.nodup_cons]; exact ⟨hω, S₁.dist⟩
    · rcases List.mem_cons.mp hp with rfl | hp
      · exact .inr S₁.mv.size
      · exact S₁.old p hp
  exact wpAny_mono (S₂.store (V := refV s₁.heap.objs.size) (mem_of hx) hx0 rfl) (fun _ s₃ h₃ => k _ s₃ hω h₃.1) fun _ _ e => e

/-- x.append(e) -/
theorem ex_append {x : Str} {px apos pos spos : Pos} {e : Expr} {D : Addr} {α : Type} {K : α → Val} {l : List α} {y : α} {rest : List Stmt} {Q : Flow → Shared → Prop} {E : Value → Shared → Prop} (S : FS F Nv ((D, listP K l) :: ω) ρ sr Nw s)
    (h₁ : ρ x = some (refV D)) (hs : (sees sc x && okName x) = true) (he : Ev X n sc ρ e (K y)) (hst : isStar e = false) (hlen : l.length ≤ 900)
    (k : ∀ s', FS F Nv ((D, listP K (l ++ [y])) :: ω) ρ sr Nw s' → wpAny X.M F.A (execs rest F.env) Q E s')
    (hev : ∀ env : Env, eval (.Call (.Attribute (.Name x px) "append" apos) [e] [] pos) env = (do
      let ov ← eval (.Name x px) env
      standAt apos.atName
      let (f, first) ← holding [ov] (getMethod ov "append" (do return (← importBound (.Name x px) env).getD true))
      callWith pos f first (backTo pos (starEach [e] env)) []) := by intro _; rfl)
    (hi : interactive F.env = false) (hsw : swapsWith (.Call (.Attribute (.Name x px) "append" apos) [e] [] pos) none spos.line F.env = pure false := by rfl) :
    wpAny X.M F.A (execs (.Expr (.Call (.Attribute (.Name x px) "append" apos) [e] [] pos) spos :: rest) F.env) Q E s := by
  refine wpAny_execs_cons (wpAny_Expr_any (prog := X.prog) (w := X.w) ?_ hi hsw)
  show wpAny X.M F.A _ _ E s
  refine MethodCall_ (pl := do return (← importBound (.Name x px) F.env).getD true) ?_ (hev F.env)
  refine wpAny_mono ((Ev.name (X := X) (n := n) (pos := px) h₁ hs).go F.A F.env Nv s E S.cst.pre) (fun ov s₁ hv => ?_) fun _ _ e => e
  obtain ⟨rfl, k₁⟩ := hv
  have S₁ := S.keeps k₁
  obtain ⟨hDN, hDn, vs₁, ⟨m₁, ho₁⟩, _⟩ := S₁.mine _ List.mem_cons_self
  refine Calls.getMethod_list_append ho₁ rfl rfl ?_
  refine Calls.callWith_builtin (by rw [starEach_cons hst]; rfl) ?_
  rw [starEach_cons hst, backTo_cons]
  refine Calls.evalArgs_plain (Calls.spliced_cons (wpAny_mono (he.go F.A F.env Nv s₁ E S₁.cst.pre) (fun v s₂ hv => Calls.spliced_nil ?_) fun _ _ e => e))
  have S₂ := S₁.keeps hv.2
  obtain ⟨hDN, hDn, vs, hpl, hP⟩ := S₂.mine _ List.mem_cons_self
  have hlv : vs.length = l.length := Paired.length hP
  show wpAny X.M F.A (call (.builtin "list.append") [.ref D, v]) _ E s₂
  refine wpAny_list_append_plain hpl (fun h' hpl' hs' => ?_) (by rw [sizeLine_eq]; simp only [List.size_toArray]; omega)
  have kb : KpB (· = D) s₂ { s₂ with heap := h' } := KpB.same_but (tk := s₂.toks) hs'
  have hview : VLe (vw Nv s₂.heap) (vw Nv h') := vw_but kb fun b o e hb _ => absurd (e ▸ hDN) hb
  have hoD : ¬ F.isOwn D := fun h => by
    obtain ⟨m, ho⟩ := hpl
    have := isOwn_data S₂.cst h ho
    cases this
  refine k _ ⟨S₂.cst.change kb fun b e => e ▸ ⟨hDN, hDn, hoD⟩, fun p hp => ?_, S₂.dist, ?_, fun p hp => ?_⟩
  · rcases List.mem_cons.mp hp with rfl | hp
    · refine ⟨hDN, hDn, vs ++ [v], by simpa using hpl', ?_⟩
      exact Paired.append (paired_mono hview hP) (.cons ((K y).mono _ _ _ hview hv.1) .nil)
    · obtain ⟨g1, g2, ws, g3, g4⟩ := S₂.mine p (List.mem_cons_of_mem _ hp)
      refine ⟨g1, g2, ws, g3.at fun o e => kb.get _ o (fun h => ?_) e, p.2.mono _ _ _ hview g4⟩
      have hd := S₂.dist
      rw [List.map_cons, List.nodup_cons] at hd
      exact hd.1 (List.mem_map.mpr ⟨p, hp, h⟩)
  · refine ⟨?_, fun b o hb e => ?_, Nat.le_trans S₂.mv.size kb.size⟩
    · obtain ⟨h1, t1, e1⟩ := S₂.mv.same
      exact ⟨h', s₂.toks, by rw [e1]⟩
    · refine kb.get b o (fun h => ?_) (S₂.mv.get b o hb e)
      subst h
      rcases S₂.old _ List.mem_cons_self with h | h
      · exact hb (.inr h)
      · exact absurd (Heap.lt_size e) (Nat.not_lt.mpr h)
  · rcases List.mem_cons.mp hp with rfl | hp
    · exact S₂.old (D, listP K l) List.mem_cons_self
    · exact S₂.old p (List.mem_cons_of_mem _ hp)

theorem FS.swap {p q : Addr × OwnP} (S : FS F Nv (p :: q :: ω) ρ sr Nw s) : FS F Nv (q :: p :: ω) ρ sr Nw s :=
  ⟨S.cst, fun r hr => S.mine r (by
    simp only [List.mem_cons] at hr ⊢
    rcases hr with h | h | h
    · exact .inr (.inl h)
    · exact .inl h
    · exact .inr (.inr h)), by
    have := S.dist
    simp only [List.map_cons, List.nodup_cons, List.mem_cons, not_or] at this ⊢
    exact ⟨⟨fun e => this.1.1 e.symm, this.2.1⟩, this.1.2, this.2.2⟩, S.mv, fun r hr => S.old r (by
    simp only [List.mem_cons] at hr ⊢
    rcases hr with h | h | h
    · exact .inr (.inl h)
    · exact .inl h
    · exact .inr (.inr h))⟩

/-- the frame gives the list free: it is a value as others are -/
theorem FS.release {x : Str} {D : Addr} {α : Type} {K : α → Val} {l : List α} (S : FS F (D :: Nv) ((D, listP K l) :: ω) ρ sr Nw s) (hx : ρ x = some (refV D)) (hxo : own.contains x = true) (hN : ∀ a ∈ F.N, a ∈ Nv) (hω : ∀ p ∈ ω, p.1 ∈ Nv) (hD : D ∉ Nv) :
    FS F Nv ω (upd ρ x (lV K l)) sr Nw s := by
  have hv : VLe (vw (D :: Nv) s.heap) (vw Nv s.heap) := vw_le_sub fun a ha => List.mem_cons_of_mem _ ha
  obtain ⟨_, hDn, vs, hpl, hP⟩ := S.mine _ List.mem_cons_self
  have C := S.cst.shrink hN
  refine ⟨⟨C.base₀, C.is, C.kept, C.sub, C.newN, C.live, C.ns, C.nsNew, C.cell, C.kinds, C.apart, fun z V hz h2 h3 => ?_, fun z V hz h2 h3 => ?_⟩, fun p hp => ?_, ?_, S.mv, fun p hp => S.old p (List.mem_cons_of_mem _ hp)⟩
  · exact C.free z V (by rw [upd_ne (show z ≠ x from fun e => h3 (e ▸ mem_of hxo))] at hz; exact hz) h2 h3
  · by_cases e : z = x
    · subst e
      rw [upd_eq] at hz; cases hz
      obtain ⟨v, hv', hb⟩ := C.mine z _ hx h2 h3
      obtain rfl : v = .ref D := hv'
      refine ⟨_, ?_, hb⟩
      exact lv_of hD hpl (paired_mono hv hP)
    · rw [upd_ne e] at hz
      exact C.mine z V hz h2 h3
  · obtain ⟨h1, h2, ws, h3, h4⟩ := S.mine p (List.mem_cons_of_mem _ hp)
    exact ⟨hω p hp, h2, ws, h3, p.2.mono _ _ _ hv h4⟩
  · have := S.dist
    rw [List.map_cons, List.nodup_cons] at this
    exact this.2

theorem FS.toNv (S : FS F Nv ω ρ sr Nw s) {I : Addr} (k : Kp s s') (h1 : s.heap.objs.size ≤ I) (h2 : I < s'.heap.objs.size) : FS F (I :: Nv) ω ρ sr Nw s' := by
  have hview : VLe (vw Nv s.heap) (vw (I :: Nv) s'.heap) := fun b o e _ => by
    obtain ⟨e1, e2⟩ := vw_some.mp e
    refine vw_some.mpr ⟨fun hm => ?_, keeps_get k b o e2⟩
    rcases List.mem_cons.mp hm with rfl | hm
    · exact absurd (Heap.lt_size e2) (Nat.not_lt.mpr h1)
    · exact e1 hm
  refine ⟨S.cst.extend k h1 h2, fun p hp => ?_, S.dist, S.mv.trans (KpB.of k), S.old⟩
  obtain ⟨g1, g2, ws, g3, g4⟩ := S.mine p hp
  exact ⟨List.mem_cons_of_mem _ g1, g2, ws, g3.at fun o e => keeps_get k _ o e, p.2.mono _ _ _ hview g4⟩
theorem FS.drop {I : Addr} (S : FS F (I :: Nv) ω ρ sr Nw s) (hN : ∀ a ∈ F.N, a ∈ Nv) (hω : ∀ p ∈ ω, p.1 ∈ Nv) : FS F Nv ω ρ sr Nw s :=
  ⟨S.cst.shrink hN, fun p hp => let ⟨_, h2, ws, h3, h4⟩ := S.mine p hp; ⟨hω p hp, h2, ws, h3, p.2.mono _ _ _ (vw_le_sub fun a ha => List.mem_cons_of_mem _ ha) h4⟩, S.dist, S.mv, S.old⟩

/-- forgetting what is known of names -/
theorem FS.weaken {ρ' : Rho} (S : FS F Nv ω ρ sr Nw s) (h : ∀ z V, ρ' z = some V → ρ z = some V) : FS F Nv ω ρ' sr Nw s :=
  ⟨⟨S.cst.base₀, S.cst.is, S.cst.kept, S.cst.sub, S.cst.newN, S.cst.live, S.cst.ns, S.cst.nsNew, S.cst.cell, S.cst.kinds, S.cst.apart, fun z V hz => S.cst.free z V (h z V hz), fun z V hz => S.cst.mine z V (h z V hz)⟩, S.mine, S.dist, S.mv, S.old⟩

/-- for x in e: .. (else: ..); ωs i, ρs i: what holds ahead of turn i; Pb: what holds where the loop is broken -/
theorem ex_for {x : Str} {px pos : Pos} {iter : Expr} {body orelse rest : List Stmt} {V : Val} {α : Type} {K : α → Val} {xs : List α} {ωs : Nat → List (Addr × OwnP)} {ρs : Nat → Rho} {Pb : List (Addr × OwnP) → Rho → Prop} {Q : Flow → Shared → Prop} {E : Value → Shared → Prop}
    (S : FS F Nv (ωs 0) (ρs 0) sr Nw s) (hiter : Ev X n sc (ρs 0) iter V) (hitr : Itr X n V K xs) (hx : own.contains x = true) (hx0 : (x == (".0" : Str)) = false) (hω : ∀ i p, p ∈ ωs i → p.1 ∈ (ωs 0).map (·.1)) (hPb : ∀ ω' ρ', Pb ω' ρ' → ∀ p ∈ ω', p.1 ∈ (ωs 0).map (·.1))
    (hbody : ∀ i a I si s' E', xs[i]? = some a → FS F (I :: Nv) (ωs i) (upd (ρs i) x (K a)) si ((ωs 0).map (·.1)) s' →
      wpAny X.M F.A (execs body F.env) (fun f s'' => (f = .next ∧ FS F (I :: Nv) (ωs (i + 1)) (ρs (i + 1)) si ((ωs 0).map (·.1)) s'') ∨ (f = .brk ∧ ∃ ω' ρ', Pb ω' ρ' ∧ FS F (I :: Nv) ω' ρ' si ((ωs 0).map (·.1)) s'')) E' s')
    (hend : ∀ s' E', FS F Nv (ωs xs.length) (ρs xs.length) sr Nw s' → wpAny X.M F.A (execs orelse F.env) (fun f s'' => match f with | .next => wpAny X.M F.A (execs rest F.env) Q E s'' | f => Q f s'') E' s')
    (hbrk : ∀ ω' ρ' s', Pb ω' ρ' → FS F Nv ω' ρ' sr Nw s' → wpAny X.M F.A (execs rest F.env) Q E s')
    (hs : ∀ v, foldedSetIterable iter F.env v = pure v := by intro _; rfl) :
    wpAny X.M F.A (execs (.For (.Name x px) iter body orelse pos :: rest) F.env) Q E s := by
  refine wpAny_execs_cons (wpAny_For ?_ hs)
  refine wpAny_mono (hiter.go F.A F.env Nv s E S.cst.pre) (fun xv s₁ h₁ => ?_) fun _ _ e => e
  have S₁ := S.keeps h₁.2
  refine wpAny_mono (hitr F.A Nv s₁ xv E S₁.cst.pre.base h₁.1) (fun it s₂ h₂ => ?_) fun _ _ e => e
  obtain ⟨k₂, I, fp, P, St, rfl, hI1, hI2, W, hst, hfp, hP⟩ := h₂
  have hN : ∀ a ∈ F.N, a ∈ Nv := S.cst.sub
  have S₂ := S₁.toNv k₂ hI1 hI2
  have hIN : I ∉ Nv := fun hm => absurd (S₁.cst.live I hm) (Nat.not_lt.mpr hI1)
  have hIo : ¬ F.isOwn I := fun h => absurd (isOwn_lt S₁.cst h) (Nat.not_lt.mpr hI1)
  have hWN : ∀ b ∈ (ωs 0).map (·.1), b ∈ Nv := fun b hb => by
    obtain ⟨p, hp, e⟩ := List.mem_map.mp hb
    exact e ▸ (S.mine p hp).1
  have hfp' : ∀ b ∈ fp, ¬ (F.isOwn b ∨ b ∈ (ωs 0).map (·.1)) := fun b hb h => by
    rcases hfp b hb with rfl | ⟨h1, o, h2, h3⟩
    · rcases h with h | h
      · exact hIo h
      · exact hIN (hWN _ h)
    · rcases h with h | h
      · rw [isOwn_data S₁.cst h h2] at h3; cases h3
      · exact h1 (hWN _ h)
  -- back to the state ahead of the loop
  have back : ∀ (ω' : List (Addr × OwnP)) (ρ' : Rho) (s' : Shared), (∀ p ∈ ω', p.1 ∈ (ωs 0).map (·.1)) → FS F (I :: Nv) ω' ρ' s₂ (I :: (ωs 0).map (·.1)) s' → FS F Nv ω' ρ' sr Nw s' := by
    intro ω' ρ' s' hw S'
    refine FS.drop (I := I) ⟨S'.cst, S'.mine, S'.dist, ⟨?_, fun b o hb e => ?_, Nat.le_trans (Nat.le_trans S₁.mv.size k₂.size) S'.mv.size⟩, fun p hp => ?_⟩ hN fun p hp => hWN _ (hw p hp)
    · obtain ⟨h1, t1, e1⟩ := S₁.mv.same
      obtain ⟨h2, t2, e2, _⟩ := k₂.keeps
      obtain ⟨h3, t3, e3⟩ := S'.mv.same
      exact ⟨h3, t3, by rw [e3, e2, e1]⟩
    · have e1 := S₁.mv.get b o hb e
      refine S'.mv.get b o (fun h => ?_) (keeps_get k₂ b o e1)
      rcases h with h | h
      · exact hb (.inl h)
      · rcases List.mem_cons.mp h with rfl | h
        · exact absurd (Heap.lt_size e1) (Nat.not_lt.mpr hI1)
        · obtain ⟨p, hp, e2⟩ := List.mem_map.mp h
          rcases S.old p hp with h | h
          · exact hb (.inr (e2 ▸ h))
          · exact absurd (Heap.lt_size e) (Nat.not_lt.mpr (e2 ▸ h))
    · obtain ⟨q, hq, e2⟩ := List.mem_map.mp (hw p hp)
      exact e2 ▸ S.old q hq
  -- the state ahead of a turn
  let T : Nat → Shared → Prop := fun i s' => FS F (I :: Nv) (ωs i) (ρs i) s₂ (I :: (ωs 0).map (·.1)) s' ∧ St i s'.heap
  have T0 : T 0 s₂ := ⟨⟨S₂.cst, S₂.mine, S₂.dist, KpB.of (keeps_refl s₂), fun p hp => .inl (List.mem_cons_of_mem _ (List.mem_map.mpr ⟨p, hp, rfl⟩))⟩, hst⟩
  refine codeAny_loop' rfl (fun j s' => ∃ i, i ≤ xs.length ∧ j = xs.length - i ∧ T i s') ?_ (xs.length - 0) ⟨0, Nat.zero_le _, rfl, T0⟩
  rintro j s' ⟨i, hi, rfl, S', hst'⟩
  show wpAny X.M F.A ((forTurn (.Name x px) (.ref I) body orelse F.env).onRaise (fun x => do noteFrame x F.env; theTreesLotGoes x)) _ _ s'
  refine wpAny_noted ?_
  unfold forTurn
  refine wpAny_bind (wpAny_standAt (wpAny_bind (wpAny_onRaise ?_)))
  by_cases hlt : i < xs.length
  · have h0 : wpAny X.M F.A (pyNext (.ref I)) (fun r s'' => ∃ v h' tk, r = some v ∧ s'' = { s' with heap := h', toks := tk } ∧ P i v ∧ St (i + 1) h' ∧ ∀ b o, b ∉ [I] → s'.heap.get? b = some o → h'.get? b = some o) (fun _ _ => False) s' :=
      W.item i s' _ _ hlt hst' fun v h' tk hP hst hk => ⟨v, h', tk, rfl, rfl, hP, hst, hk⟩
    refine wpAny_mono (wpAny_size h0) (fun r s₃ hr => ?_) fun _ _ e => e.elim
    obtain ⟨hsz, v, h', tk, rfl, e₃, hPv, hst₃', hk⟩ := hr
    have hst₃ : St (i + 1) s₃.heap := by rw [e₃]; exact hst₃'
    have kb : KpB (· = I) s' s₃ := ⟨⟨h', tk, e₃⟩, fun b o hb e => by rw [e₃]; exact hk b o (by simpa using hb) e, hsz⟩
    have hview : VLe (vw (I :: Nv) s'.heap) (vw (I :: Nv) s₃.heap) := vw_but kb fun b o e hb _ => absurd (e ▸ List.mem_cons_self) hb
    have S₃ : FS F (I :: Nv) (ωs i) (ρs i) s₂ (I :: (ωs 0).map (·.1)) s₃ := by
      refine ⟨S'.cst.change kb (fun b e => by have e' : b = I := e; subst e'; exact ⟨List.mem_cons_self, Nat.le_trans S₁.cst.kept.size hI1, hIo⟩), fun p hp => ?_, S'.dist, ?_, S'.old⟩
      · obtain ⟨g1, g2, ws, g3, g4⟩ := S'.mine p hp
        exact ⟨g1, g2, ws, g3.at fun o e => kb.get _ o (fun h => hIN (h ▸ hWN _ (hω i p hp))) e, p.2.mono _ _ _ hview g4⟩
      · exact S'.mv.trans (kb.mono fun b e => .inr (e ▸ List.mem_cons_self))
    obtain ⟨a, ha, hKa⟩ := hP i v hlt hPv
    have hv0 : VLe (vw Nv s₁.heap) (vw (I :: Nv) s₂.heap) := fun b o e _ => by
      obtain ⟨e1, e2⟩ := vw_some.mp e
      refine vw_some.mpr ⟨fun hm => ?_, keeps_get k₂ b o e2⟩
      rcases List.mem_cons.mp hm with rfl | hm
      · exact absurd (Heap.lt_size e2) (Nat.not_lt.mpr hI1)
      · exact e1 hm
    have hv1 : VLe (vw (I :: Nv) s₂.heap) (vw (I :: Nv) s₃.heap) := vw_but S₃.mv fun b o h hb e => by
      rcases h with h | h
      · exact isOwn_data S₂.cst h e
      · rcases List.mem_cons.mp h with rfl | h
        · exact absurd List.mem_cons_self hb
        · exact absurd (List.mem_cons_of_mem _ (hWN _ h)) hb
    have hK₃ : (K a).holds (vw (I :: Nv) s₃.heap) v := (K a).mono _ _ _ (hv0.trans hv1) hKa
    show wpAny _ _ (letOwnedTupleGo (.Name x px) (.ref I) v >>= _) _ _ _
    refine wpAny_bind (wpAny_of_eq (show letOwnedTupleGo (.Name x px) (.ref I) v = pure () from rfl) ?_)
    -- the body looks back to this state, and may change the frame's own lists, not I
    have S₃' : FS F (I :: Nv) (ωs i) (ρs i) s₃ ((ωs 0).map (·.1)) s₃ := ⟨S₃.cst, S₃.mine, S₃.dist, KpB.of (keeps_refl s₃), fun p hp => .inl (hω i p hp)⟩
    refine wpAny_bind (wpAny_assign_Name (wpAny_mono (S₃'.store (V := K a) (mem_of hx) hx0 hK₃) (fun _ s₄ h₄ => ?_) fun _ _ e => e))
    refine wpAny_bind (wpAny_mono (hbody i a I s₃ s₄ _ ha h₄.1) (fun f s₅ h₅ => ?_) fun _ _ e => e)
    have join : ∀ (ω' : List (Addr × OwnP)) (ρ' : Rho), (∀ p ∈ ω', p.1 ∈ (ωs 0).map (·.1)) → FS F (I :: Nv) ω' ρ' s₃ ((ωs 0).map (·.1)) s₅ → FS F (I :: Nv) ω' ρ' s₂ (I :: (ωs 0).map (·.1)) s₅ := fun ω' ρ' hw S₅ =>
      ⟨S₅.cst, S₅.mine, S₅.dist, S₃.mv.trans (S₅.mv.mono fun b h => h.imp id fun h => List.mem_cons_of_mem _ h), fun p hp => .inl (List.mem_cons_of_mem _ (hw p hp))⟩
    rcases h₅ with ⟨rfl, S₅⟩ | ⟨rfl, ω', ρ', hPb', S₅⟩
    · refine wpAny_pure (.inl ⟨rfl, xs.length - (i + 1), by omega, i + 1, hlt, rfl, join _ _ (hω (i + 1)) S₅, W.frame _ _ _ hst₃ fun b hb o e => S₅.mv.get b o (hfp' b hb) e⟩)
    · exact wpAny_pure (hbrk ω' ρ' s₅ hPb' (back ω' ρ' s₅ (hPb ω' ρ' hPb') (join ω' ρ' (hPb ω' ρ' hPb') S₅)))
  · have hin : i = xs.length := by omega
    subst hin
    have h0 : wpAny X.M F.A (pyNext (.ref I)) (fun r s'' => r = none ∧ ∃ h' tk, s'' = { s' with heap := h', toks := tk } ∧ ∀ b o, b ∉ [I] → s'.heap.get? b = some o → h'.get? b = some o) (fun _ _ => False) s' :=
      W.done s' _ _ hst' fun h' tk hk => ⟨rfl, h', tk, rfl, hk⟩
    refine wpAny_mono (wpAny_size h0) (fun r s₃ hr => ?_) fun _ _ e => e.elim
    obtain ⟨hsz, rfl, h', tk, e₃, hk⟩ := hr
    have kb : KpB (· = I) s' s₃ := ⟨⟨h', tk, e₃⟩, fun b o hb e => by rw [e₃]; exact hk b o (by simpa using hb) e, hsz⟩
    have hview : VLe (vw (I :: Nv) s'.heap) (vw (I :: Nv) s₃.heap) := vw_but kb fun b o e hb _ => absurd (e ▸ List.mem_cons_self) hb
    have S₃ : FS F (I :: Nv) (ωs xs.length) (ρs xs.length) s₂ (I :: (ωs 0).map (·.1)) s₃ := by
      refine ⟨S'.cst.change kb (fun b e => by have e' : b = I := e; subst e'; exact ⟨List.mem_cons_self, Nat.le_trans S₁.cst.kept.size hI1, hIo⟩), fun p hp => ?_, S'.dist, ?_, S'.old⟩
      · obtain ⟨g1, g2, ws, g3, g4⟩ := S'.mine p hp
        exact ⟨g1, g2, ws, g3.at fun o e => kb.get _ o (fun h => hIN (h ▸ hWN _ (hω xs.length p hp))) e, p.2.mono _ _ _ hview g4⟩
      · exact S'.mv.trans (kb.mono fun b e => .inr (e ▸ List.mem_cons_self))
    refine wpAny_pure (.inr ⟨rfl, codeAny_block (prog := X.prog) (w := X.w) ?_⟩)
    exact hend s₃ _ (back _ _ s₃ (hω xs.length) S₃)
end
end Mine
open PySem PySem.W PyProof.Rows PySem.MeetsSeq PySem.SeqRoads2
set_option Elab.async false
set_option autoImplicit false
set_option linter.unusedVariables false
namespace Mine

def defOk (sc : Scope) (own : List Str) : Bool :=
  sc.kind == .function && decide ((sc.names.map (·.1)).Nodup) && (sc.names.all fun (z, k) => match k with
    | .local => own.contains z
    | .cell => own.contains z
    | .free => false
    | _ => !own.contains z) &&
  (own.all fun z => sc.names.lookup z == some .local || sc.names.lookup z == some .cell) && !sc.isCoroutine && !sc.isGenerator
structure DefOk (sc : Scope) (own : List Str) : Prop where
  kind : sc.kind = .function
  nodup : (sc.names.map (·.1)).Nodup
  loc : ∀ z, (z, NameKind.local) ∈ sc.names → z ∈ own
  cell : ∀ z, (z, NameKind.cell) ∈ sc.names → z ∈ own
  free : ∀ z, (z, NameKind.free) ∉ sc.names
  own : ∀ z, z ∈ own → sc.names.lookup z = some .local ∨ sc.names.lookup z = some .cell
  co : sc.isCoroutine = false
  gen : sc.isGenerator = false
theorem DefOk.of {sc : Scope} {own : List Str} (h : defOk sc own = true) : DefOk sc own := by
  unfold defOk at h
  simp only [Bool.and_eq_true, decide_eq_true_eq, List.all_eq_true, beq_iff_eq, Bool.or_eq_true, Bool.not_eq_true'] at h
  obtain ⟨⟨⟨⟨⟨h1, h2⟩, h3⟩, h4⟩, h5⟩, h6⟩ := h
  refine ⟨h1, h2, fun z hz => ?_, fun z hz => ?_, fun z hz => ?_, fun z hz => h4 z hz, h5, h6⟩
  · simpa using h3 (z, .local) hz
  · simpa using h3 (z, .cell) hz
  · simpa using h3 (z, .free) hz

section
variable {X : Cx} {n : Nat}
theorem bindL_one {kindOf : Str → Option NameKind} {x : Str} {v : Value} {m : Str → Option Value} (h : kindOf x = some .local) : bindL kindOf [(x, v)] m x = some v := by
  simp [bindL, h]
theorem bindC_one {kindOf : Str → Option NameKind} {x : Str} {v : Value} {m : Str → Option Value} (h : kindOf x = some .cell) : bindC kindOf [(x, v)] m x = some v := by
  simp [bindC, h]

/-- nothing is known of any name -/
def rho0 : Rho := fun _ => none

theorem enter_def {sc : Scope} {own : List Str} {fd : FuncData} {A : Around} {N : List Addr} {s s₁ : Shared} {a : Addr} {x : Str} {v : Value} {V : Val} (ok : DefOk sc own) (hsc : fd.scope = sc) (hg : fd.globals = mainGlobals) (hb : fd.builtins = builtinsNs) (hx : x ∈ own)
    (B : Base X (n + 1) A N s) (hv : V.holds (vw N s.heap) v)
    (C : InCallC s (callEnvC fd s.heap.objs.size a).locals (bindL (callEnvC fd s.heap.objs.size a).kindOf [(x, v)] fun _ => none) (callEnvC fd s.heap.objs.size a).cells (bindC (callEnvC fd s.heap.objs.size a).kindOf [(x, v)] fun _ => none) s₁) :
    FS (⟨A.deeper (callEnvC fd s.heap.objs.size a), callEnvC fd s.heap.objs.size a, N, s⟩ : Frm X n sc own) N [] (upd rho0 x V) s₁ [] s₁ := by
  subst hsc
  have hL : (callEnvC fd s.heap.objs.size a).locals = s.heap.objs.size := rfl
  have hcells : (callEnvC fd s.heap.objs.size a).cells = cellsFrom (s.heap.objs.size + 1) fd.scope.names [] := rfl
  have hkindOf : ∀ z, (callEnvC fd s.heap.objs.size a).kindOf z = fd.scope.names.lookup z := fun z => rfl
  have hlt : s.heap.objs.size < s₁.heap.objs.size := by
    obtain ⟨o, _, _, ho, _⟩ := C.toInCall.ns
    exact Heap.lt_size ho
  have hk : Kp s s₁ := by
    refine ⟨?_, Nat.le_of_lt hlt⟩
    obtain ⟨h', tk, e⟩ := C.toInCall.same
    refine ⟨h', tk, e, fun b o eb => ?_⟩
    have := C.toInCall.keep b o eb
    rw [e] at this; exact this
  have cell : ∀ z, z ∈ own → fd.scope.names.lookup z = some .cell → ∃ c, (callEnvC fd s.heap.objs.size a).cells.lookup z = some c := fun z _ hz => by
    obtain ⟨c, hc⟩ := cellsFrom_has fd.scope.names (s.heap.objs.size + 1) z (mem_lookup_kind hz)
    exact lookup_some hc
  have visible : ∀ z, sees fd.scope z = true → z ∈ own := fun z hz => by
    unfold sees at hz
    cases hl : fd.scope.names.lookup z with
    | none => rw [hl] at hz; cases hz
    | some k =>
      have hm := mem_lookup_kind hl
      cases k with
      | «local» => exact ok.loc z hm
      | cell => exact ok.cell z hm
      | free => exact absurd hm (ok.free z)
      | _ => rw [hl] at hz; cases hz
  refine ⟨⟨⟨⟨B.lev.handled, ?_, ?_⟩, B.gd, B.live⟩, ⟨rfl, ok.kind, hg, hb, fun z hz => ?_⟩, hk, fun _ h => h, fun _ h => .inl h, fun b hb' => Nat.lt_trans (B.live b hb') hlt, ⟨_, C.toInCall.ns⟩, Nat.le_refl _, fun z hz hkz => ?_, ok.own, fun z z' c hz hz' h1 h2 h3 h4 => ?_, fun z V' hz h2 h3 => ?_, fun z V' hz h2 h3 => ?_⟩,
    (fun p hp => nomatch hp), List.nodup_nil, KpB.of (keeps_refl s₁), (fun p hp => nomatch hp)⟩
  · show A.depth + 1 + n < 900
    have := B.lev.depth; omega
  · show A.units + 3 + 20 * n < 5000
    have := B.lev.units; omega
  · rcases hz with hz | hz
    · exact cell z (ok.cell z (mem_lookup_kind hz)) hz
    · exact absurd (mem_lookup_kind hz) (ok.free z)
  · obtain ⟨c, hc⟩ := cell z hz hkz
    exact ⟨c, _, hc, C.cell z c hc, Nat.le_of_lt (C.above z c (PySem.mem_of_lookup hc))⟩
  · exact name_of_addr C.apart (PySem.mem_of_lookup h3) (PySem.mem_of_lookup h4)
  · exact absurd (visible z h2) h3
  · by_cases e : z = x
    · subst e
      rw [upd_eq] at hz; cases hz
      refine ⟨v, V.mono _ _ _ (keeps_vw hk) hv, ?_⟩
      rcases ok.own z h3 with hl | hl
      · exact .inl ⟨hl, _, C.toInCall.ns, bindL_one hl⟩
      · obtain ⟨c, hc⟩ := cell z h3 hl
        refine .inr ⟨.inl hl, c, hc, ?_⟩
        have := C.cell z c hc
        rwa [bindC_one (show (callEnvC fd s.heap.objs.size a).kindOf z = some .cell from hl)] at this
    · rw [upd_ne e] at hz; cases hz

/-- a def of one parameter: what its body gives back, its call gives -/
theorem fn_def {a : Addr} {o : Obj} {fd : FuncData} {body : List Stmt} {x : Str} {V W : Val} {own : List Str} (ha : X.K.lookup a = some o) (hd : o.data = .func fd) (hbody : fd.body = .stmts body) (hclo : fd.closure = []) (hg : fd.globals = mainGlobals) (hb : fd.builtins = builtinsNs)
    (hcode : ∀ h, X.K.In h → h.CodeRec fd.code fd.qualname) (hbind : ∀ v, bindArgs fd ⟨[v], []⟩ = pure [(x, v)]) (hok : defOk fd.scope own = true) (hx : x ∈ own)
    (run : ∀ (F : Frm X n fd.scope own) (s : Shared), FS F F.N [] (upd rho0 x V) s [] s →
      wpAny X.M F.A (execs body F.env) (fun f s' => ∃ v, f = .ret v ∧ W.holds (vw F.N s'.heap) v ∧ Kp F.s₀ s') (fun _ _ => False) s) : Fn X (n + 1) (.ref a) [V] W := by
  refine ⟨?_⟩
  intro A N s vs E B hp
  cases hp with
  | cons h h' =>
    rename_i v _
    cases h'
    have ok := DefOk.of hok
    refine wpAny_call (codeAny_call_cells (prog := X.prog) (w := X.w) ?_ (B.gd.frag a o ha) hd B.gd.lim (hcode _ B.gd.frag) hbody (hbind v) hclo ?_ (fun s₁ C => ?_) ok.co ok.gen ok.kind)
    · have := B.lev.depth; unfold recursionLimit; omega
    · intro p hp
      simp only [List.mem_cons, List.not_mem_nil, or_false] at hp
      subst hp
      rcases ok.own x hx with hl | hl
      · exact .inl hl
      · refine .inr ⟨hl, ?_⟩
        obtain ⟨c, hc⟩ := cellsFrom_has fd.scope.names (s.heap.objs.size + 1) x (mem_lookup_kind hl)
        obtain ⟨c', hc'⟩ := lookup_some hc
        rw [hc']; rfl
    · refine wpAny_mono (run _ s₁ (enter_def ok rfl hg hb hx B h C)) (fun f s' hf => ?_) fun _ _ e => e.elim
      obtain ⟨r, rfl, hr, hk⟩ := hf
      exact ⟨hr, hk⟩

/-! the built-in functions by name -/
theorem boot_sum' : bootBuiltins "sum" = some (.builtin "sum") := by decide +kernel
theorem boot_len' : bootBuiltins "len" = some (.builtin "len") := by decide +kernel
theorem boot_sorted' : bootBuiltins "sorted" = some (.builtin "sorted") := by decide +kernel
theorem boot_min' : bootBuiltins "min" = some (.builtin "min") := by decide +kernel
theorem boot_hex' : bootBuiltins "hex" = some (.builtin "hex") := by decide +kernel
theorem boot_range' : bootBuiltins "range" = some (.type "range") := by decide +kernel
section
variable {sc : Scope} {ρ : Rho}
theorem Ev.sum {e : Expr} {p pos : Pos} {l : List Int} (h : Ev X n sc ρ e (lV iV l)) (hs : isStar e = false) (hk : sc.names.lookup (Str.ofString "sum") = some .globalImplicit) : Ev X n sc ρ (.Call (.Name "sum" p) [e] [] pos) (iV l.sum) :=
  Ev.callB (.cons ⟨hs, h⟩ .nil) fn_sum (by decide +kernel) boot_sum' hk
theorem Ev.len {α : Type} {K : α → Val} {e : Expr} {p pos : Pos} {l : List α} (h : Ev X n sc ρ e (lV K l)) (hl : l.length ≤ 2 ^ 30) (hs : isStar e = false) (hk : sc.names.lookup (Str.ofString "len") = some .globalImplicit) : Ev X n sc ρ (.Call (.Name "len" p) [e] [] pos) (iV l.length) :=
  Ev.callB (.cons ⟨hs, h⟩ .nil) (fn_len hl) (by decide +kernel) boot_len' hk
theorem Ev.sorted {e : Expr} {p pos : Pos} {l : List Int} (h : Ev X n sc ρ e (lV iV l)) (hl : l.length < 64) (hs : isStar e = false) (hk : sc.names.lookup (Str.ofString "sorted") = some .globalImplicit) : Ev X n sc ρ (.Call (.Name "sorted" p) [e] [] pos) (lV iV (isort l)) :=
  Ev.callB (.cons ⟨hs, h⟩ .nil) (fn_sorted hl) (by decide +kernel) boot_sorted' hk
theorem Ev.min {e : Expr} {p pos : Pos} {l : List Int} {m : Int} (h : Ev X n sc ρ e (lV iV l)) (hm : m ∈ l) (hle : ∀ x ∈ l, m ≤ x) (hs : isStar e = false) (hk : sc.names.lookup (Str.ofString "min") = some .globalImplicit) : Ev X n sc ρ (.Call (.Name "min" p) [e] [] pos) (iV m) :=
  Ev.callB (.cons ⟨hs, h⟩ .nil) (fn_min hm hle) (by decide +kernel) boot_min' hk
theorem Ev.hex {e : Expr} {p pos : Pos} {i : Int} (h : Ev X n sc ρ e (iV i)) (hl : (baseText "0x" 16 i).length ≤ 1000) (hs : isStar e = false) (hk : sc.names.lookup (Str.ofString "hex") = some .globalImplicit) : Ev X n sc ρ (.Call (.Name "hex" p) [e] [] pos) (sV (baseText "0x" 16 i)) :=
  Ev.callB (.cons ⟨hs, h⟩ .nil) (fn_hex hl) (by decide +kernel) boot_hex' hk
theorem Ev.range1 {e : Expr} {p pos : Pos} {i : Int} (h : Ev X n sc ρ e (iV i)) (hs : isStar e = false) (hk : sc.names.lookup (Str.ofString "range") = some .globalImplicit) : Ev X n sc ρ (.Call (.Name "range" p) [e] [] pos) (rV 0 i) :=
  Ev.callT (.cons ⟨hs, h⟩ .nil) fn_range1 (by decide +kernel) boot_range' hk
theorem Ev.range2 {e e' : Expr} {p pos : Pos} {i j : Int} (h : Ev X n sc ρ e (iV i)) (h' : Ev X n sc ρ e' (iV j)) (hs : isStar e = false) (hs' : isStar e' = false) (hk : sc.names.lookup (Str.ofString "range") = some .globalImplicit) : Ev X n sc ρ (.Call (.Name "range" p) [e, e'] [] pos) (rV i j) :=
  Ev.callT (.cons ⟨hs, h⟩ (.cons ⟨hs', h'⟩ .nil)) fn_range2 (by decide +kernel) boot_range' hk
end

/-! what the model asks of a block -/
theorem interactive_of {sc : Scope} {env : Env} (I : EnvIs sc env) : interactive env = false := by
  unfold interactive; rw [I.eq, I.kind]; rfl
/-- are the stores of «t = [..]» exchanged? -/
def swapB (sc scope : Scope) (t : Str) (p q : Pos) : Bool := sc.names.lookup t == some .local && p.line == q.line && !(scope.names.any fun (n, k) => n == t && (k == .local || k == .cell))
theorem swaps_comp {sc scope : Scope} {env : Env} {elt : Expr} {gens : List Comprehension} {t : Str} {p q : Pos} {line : Nat} {b : Bool} (I : EnvIs sc env) (hb : swapB sc scope t p q = b) : swapsWith (.ListComp elt gens scope q) (some (.Name t p)) line env = pure b := by
  unfold swapsWith
  have h1 : (env.blockKind == ScopeKind.function) = true := by unfold Env.blockKind; rw [I.eq, I.kind]; rfl
  simp only [h1, I.kindOf, Bool.true_and]
  rw [← hb]; rfl
end
end Mine
open PySem PySem.W PyProof.Rows PySem.MeetsSeq PySem.SeqRoads2
set_option Elab.async false
set_option autoImplicit false
set_option linter.unusedVariables false
namespace Mine
/-! bits -/
theorem bitAnd_nat (a b : Nat) : Builtin.bitAnd (a : Int) (b : Int) = ((a &&& b : Nat) : Int) := by
  unfold Builtin.bitAnd
  simp
theorem xor_add : ∀ (a b : Nat), (a ^^^ b) + 2 * (a &&& b) = a + b := by
  intro a
  induction a using Nat.strongRecOn with
  | ind a ih =>
    intro b
    by_cases h0 : a = 0
    · subst h0; simp
    · have h := ih (a / 2) (by omega) (b / 2)
      rw [← Nat.xor_div_two, ← Nat.and_div_two] at h
      have h1 : (a ^^^ b) % 2 = 1 ↔ ¬ (a % 2 = 1 ↔ b % 2 = 1) := Nat.xor_mod_two_eq_one
      have h2 : (a &&& b) % 2 = 1 ↔ a % 2 = 1 ∧ b % 2 = 1 := Nat.and_mod_two_eq_one
      by_cases ha : a % 2 = 1 <;> by_cases hb : b % 2 = 1 <;> simp only [ha, hb, and_self, and_true, and_false, iff_true, iff_false, not_true, not_false_iff, iff_self] at h1 h2 <;> omega
theorem bitXor_nat (a b : Nat) : Builtin.bitXor (a : Int) (b : Int) = ((a ^^^ b : Nat) : Int) := by
  rw [bitXor_and, bitAnd_nat]
  have := xor_add a b
  omega
def hi (m i : Nat) : Nat := m / 2 ^ i * 2 ^ i
theorem hi_zero (m : Nat) : hi m 0 = m := by simp [hi]
theorem hi_step (m i : Nat) : hi m i = hi m (i + 1) + (m / 2 ^ i % 2) * 2 ^ i := by
  unfold hi
  have h1 : m / 2 ^ (i + 1) = m / 2 ^ i / 2 := by rw [Nat.pow_succ, Nat.div_div_eq_div_mul]
  rw [h1, Nat.pow_succ]
  have h2 : m / 2 ^ i = 2 * (m / 2 ^ i / 2) + m / 2 ^ i % 2 := by omega
  generalize m / 2 ^ i / 2 = x at *
  generalize m / 2 ^ i % 2 = y at *
  rw [h2, Nat.add_mul, Nat.mul_comm 2 x, Nat.mul_assoc, Nat.mul_comm 2 (2 ^ i)]
theorem hi_and (m i : Nat) : hi m i &&& 2 ^ i = (m / 2 ^ i % 2) * 2 ^ i := by
  apply Nat.eq_of_testBit_eq
  intro j
  unfold hi
  rw [Nat.testBit_and, Nat.testBit_mul_two_pow, Nat.testBit_mul_two_pow, Nat.testBit_two_pow]
  by_cases hj : i = j
  · subst hj
    simp
  · by_cases hle : i ≤ j
    · have e : (m / 2 ^ i % 2).testBit (j - i) = false := by
        apply Nat.testBit_lt_two_pow
        have h2 : 2 ^ 1 ≤ 2 ^ (j - i) := Nat.pow_le_pow_right (by decide) (by omega)
        have h3 := Nat.mod_lt (m / 2 ^ i) (show 0 < 2 by decide)
        omega
      simp [hj, e]
    · simp [hj, hle]
theorem hi_xor {m i : Nat} (h : m / 2 ^ i % 2 = 1) : hi m i ^^^ 2 ^ i = hi m (i + 1) := by
  have h1 := xor_add (hi m i) (2 ^ i)
  have h2 := hi_step m i
  rw [hi_and, h] at h1
  rw [h] at h2
  omega
theorem hi_same {m i : Nat} (h : m / 2 ^ i % 2 = 0) : hi m i = hi m (i + 1) := by
  have h2 := hi_step m i
  rw [h] at h2
  omega
theorem hi_end {m i : Nat} (h : m < 2 ^ i) : hi m i = 0 := by
  unfold hi
  rw [Nat.div_eq_of_lt h, Nat.zero_mul]
theorem testBit_dm (m i : Nat) : m.testBit i = decide (m / 2 ^ i % 2 = 1) := Nat.testBit_eq_decide_div_mod_eq
theorem hi_later {m : Nat} : ∀ {i : Nat} (k : Nat), hi m i = 0 → hi m (i + k) = 0
  | _, 0, h => h
  | i, k + 1, h => by
    have := hi_later k h
    have h2 := hi_step m (i + k)
    rw [this] at h2
    show hi m (i + k + 1) = 0
    omega
theorem no_bits {m i j : Nat} (h : hi m i = 0) (hj : i ≤ j) : m.testBit j = false := by
  have h1 := hi_later (j - i) h
  rw [show i + (j - i) = j by omega] at h1
  have h2 := hi_step m j
  rw [h1] at h2
  rw [testBit_dm]
  have h3 := Nat.two_pow_pos j
  have : m / 2 ^ j % 2 = 0 := by
    rcases Nat.mod_two_eq_zero_or_one (m / 2 ^ j) with h | h
    · exact h
    · rw [h] at h2; omega
  simp [this]

/-! the law's own name of a place -/
abbrev words8 : List Str := ["OPTIMIZED", "NEWLOCALS", "VARARGS", "VARKEYWORDS", "NESTED", "GENERATOR", "NOFREE", "COROUTINE"]
abbrev words2 : List Str := ["ITERABLE_COROUTINE", "ASYNC_GENERATOR"]
def lawWords : List Str := words8 ++ words2
theorem lawWords_length : lawWords.length = 10 := rfl
def lawName (p : Int) : Str := if p < 10 then lawWords.getD p.toNat Str.empty else (Str.ofString "0x" ++ ⟨#[(Str.ofString "1248").cps.getD (p % 4).toNat 0]⟩) ++ Txt.mul (Str.ofString "0") (p / 4)
theorem lawName_all : ∀ i : Fin 32, (lawName (i.val : Int)).length ≤ 18 ∧ 3 ≤ (lawName (i.val : Int)).length ∧ (lawName (i.val : Int)).cps.toList.contains 44 = false ∧ PyData.strOk (lawName (i.val : Int)) = true ∧ (lawName (i.val : Int)) ≠ Str.ofString "0x0" := by decide +kernel
theorem lawName_inj : ∀ i j : Fin 32, lawName (i.val : Int) = lawName (j.val : Int) → i = j := by decide +kernel
theorem mulS_len : ∀ i : Fin 8, (Txt.mul (Str.ofString "0") (i.val : Int)).length = i.val := by decide +kernel

/-! what pretty_flags tells -/
def flagsUpto (m i : Nat) : List Str := ((List.range i).filter (fun i => m.testBit i)).map fun i : Nat => lawName (i : Int)
theorem flagsUpto_succ (m i : Nat) : flagsUpto m (i + 1) = flagsUpto m i ++ if m.testBit i then [lawName (i : Int)] else [] := by
  unfold flagsUpto
  rw [List.range_succ, List.filter_append, List.map_append]
  congr 1
  simp only [List.filter_cons, List.filter_nil]
  split <;> rfl
theorem flagsUpto_more {m i : Nat} (h : hi m i = 0) : ∀ k : Nat, flagsUpto m (i + k) = flagsUpto m i
  | 0 => rfl
  | k + 1 => by
    show flagsUpto m (i + k + 1) = _
    rw [flagsUpto_succ, no_bits h (by omega), flagsUpto_more h k]
    simp
def flagNames (m : Nat) : List Str := if m = 0 then [Str.ofString "0x0"] else flagsUpto m 32
def pretty (m : Nat) : Str := Txt.join (Str.ofString ", ") (flagNames m)
theorem flagsUpto_length (m i : Nat) : (flagsUpto m i).length ≤ i := by
  unfold flagsUpto
  rw [List.length_map]
  exact Nat.le_trans (List.length_filter_le _ _) (by simp)

/-! medians -/
def medLow (l : List Int) : Int := if (l.length : Int) % 2 == 1 then (isort l).getD (l.length / 2) 0 else (isort l).getD (l.length / 2 - 1) 0
def medHigh (l : List Int) : Int := (isort l).getD (l.length / 2) 0
theorem isort_length (l : List Int) : (isort l).length = l.length := (isort_perm l).length_eq
theorem get_getD {l : List Int} {i : Nat} (h : i < l.length) : l[i]? = some (l.getD i 0) := by simp [h]
end Mine
open PySem PySem.W PyProof.Rows PySem.MeetsSeq PySem.SeqRoads2
set_option Elab.async false
set_option autoImplicit false
set_option linter.unusedVariables false
namespace Mine
/-- a value with a fact beside it -/
def gV (P : Prop) (V : Val) : Val := ⟨fun g v => P ∧ V.holds g v, fun g g' v h x => ⟨x.1, V.mono g g' v h x.2⟩⟩
def VImp (W V : Val) : Prop := ∀ g v, W.holds g v → V.holds g v
theorem VImp.refl (V : Val) : VImp V V := fun _ _ h => h
theorem VImp.to {P : Prop} {V : Val} (h : P) : VImp V (gV P V) := fun _ _ x => ⟨h, x⟩
theorem VImp.of {P : Prop} {V : Val} : VImp (gV P V) V := fun _ _ x => x.2
theorem VImp.eq {V W : Val} (h : V = W) : VImp V W := h ▸ VImp.refl V
/-- ρ' says no more than ρ -/
def Wk (ρ ρ' : Rho) : Prop := ∀ z V, ρ' z = some V → ∃ W, ρ z = some W ∧ VImp W V
theorem Wk.refl (ρ : Rho) : Wk ρ ρ := fun _ V h => ⟨V, h, .refl V⟩
theorem Wk.nil {ρ : Rho} : Wk ρ rho0 := fun _ _ h => nomatch h
theorem Wk.upd {ρ ρ' : Rho} {x : Str} {V W : Val} (hx : ρ x = some W) (hi : VImp W V) (h : Wk ρ ρ') : Wk ρ (upd ρ' x V) := fun z U hz => by
  by_cases e : z = x
  · subst e; rw [upd_eq] at hz; cases hz; exact ⟨W, hx, hi⟩
  · rw [upd_ne e] at hz; exact h z U hz
section
variable {X : Cx} {n : Nat} {sc : Scope} {own : List Str} {F : Frm X n sc own} {Nv Nw : List Addr} {ω : List (Addr × OwnP)} {ρ : Rho} {sr s s' : Shared}
theorem FS.wk {ρ' : Rho} (S : FS F Nv ω ρ sr Nw s) (h : Wk ρ ρ') : FS F Nv ω ρ' sr Nw s :=
  ⟨⟨S.cst.base₀, S.cst.is, S.cst.kept, S.cst.sub, S.cst.newN, S.cst.live, S.cst.ns, S.cst.nsNew, S.cst.cell, S.cst.kinds, S.cst.apart,
    fun z V hz h2 h3 => let ⟨W, hw, hi⟩ := h z V hz; let ⟨v, hv, hb⟩ := S.cst.free z W hw h2 h3; ⟨v, hi _ _ hv, hb⟩,
    fun z V hz h2 h3 => let ⟨W, hw, hi⟩ := h z V hz; let ⟨v, hv, hb⟩ := S.cst.mine z W hw h2 h3; ⟨v, hi _ _ hv, hb⟩⟩, S.mine, S.dist, S.mv, S.old⟩
theorem FS.fact {P : Prop} {V : Val} {x : Str} (S : FS F Nv ω ρ sr Nw s) (hx : ρ x = some (gV P V)) (hs : sees sc x = true) : P := by
  obtain ⟨v, hv, _⟩ := S.cst.pre.ok x _ hx (by rw [S.cst.pre.is.eq]; exact hs)
  exact hv.1
theorem FS.intv (S : FS F Nv ω ρ sr Nw s) : interactive F.env = false := interactive_of S.cst.is
end
section
variable {X : Cx} {n : Nat} {sc : Scope} {ρ : Rho}
theorem Ev.imp {e : Expr} {V W : Val} (h : Ev X n sc ρ e V) (hi : VImp V W) : Ev X n sc ρ e W := .mk fun A env N s E P =>
  wpAny_mono (h.go A env N s E P) (fun _ _ r => ⟨hi _ _ r.1, r.2⟩) fun _ _ e => e
end
end Mine
namespace Mine
section
variable {X : Cx} {n : Nat} {sc : Scope} {ρ : Rho}
theorem Op2.of1 {f : Value → Value → Sem Value} {W V₁ V₂ V : Val} (h : VImp W V₁) (ho : Op2 X n f V₁ V₂ V) : Op2 X n f W V₂ V := fun A N s a b E B ha hb => ho A N s a b E B (h _ _ ha) hb
theorem Op2.cast {f : Value → Value → Sem Value} {V₁ V₂ V V' : Val} (ho : Op2 X n f V₁ V₂ V) (e : V = V') : Op2 X n f V₁ V₂ V' := e ▸ ho
theorem iV_eq {i j : Int} (h : i = j) : iV i = iV j := h ▸ rfl
theorem sV_eq {i j : Str} (h : i = j) : sV i = sV j := h ▸ rfl
theorem lV_eq {α : Type} {K : α → Val} {l r : List α} (h : l = r) : lV K l = lV K r := h ▸ rfl
end

/-! statements, closed to the unifier's eye -/
structure Go {X : Cx} {n : Nat} {sc : Scope} {own : List Str} (F : Frm X n sc own) (b : List Stmt) (Q : Flow → Shared → Prop) (E : Value → Shared → Prop) (s : Shared) : Prop where
  go : wpAny X.M F.A (execs b F.env) Q E s
/-- what follows a block -/
def Nx {X : Cx} {n : Nat} {sc : Scope} {own : List Str} (F : Frm X n sc own) (rest : List Stmt) (Q : Flow → Shared → Prop) (E : Value → Shared → Prop) : Flow → Shared → Prop := fun f s => match f with
  | .next => Go F rest Q E s
  | f => Q f s
section
variable {X : Cx} {n : Nat} {sc : Scope} {own : List Str} {F : Frm X n sc own} {Nv Nw : List Addr} {ω : List (Addr × OwnP)} {ρ : Rho} {sr s s' : Shared}
theorem Go.nx {b rest : List Stmt} {Q : Flow → Shared → Prop} {E E' : Value → Shared → Prop} (h : Go F b (Nx F rest Q E') E s) : wpAny X.M F.A (execs b F.env) (fun f s'' => match f with | .next => wpAny X.M F.A (execs rest F.env) Q E' s'' | f => Q f s'') E s :=
  wpAny_mono h.go (fun f s'' hf => by
    cases f with
    | next => exact Go.go hf
    | _ => exact hf) fun _ _ e => e
theorem go_nil {Q : Flow → Shared → Prop} {E : Value → Shared → Prop} (h : Q .next s) : Go F [] Q E s := ⟨ex_nil h⟩
theorem go_nx {rest : List Stmt} {Q : Flow → Shared → Prop} {E E' : Value → Shared → Prop} (h : Go F rest Q E' s) : Go F [] (Nx F rest Q E') E s := ⟨ex_nil h⟩
theorem go_break {pos : Pos} {rest : List Stmt} {Q : Flow → Shared → Prop} {E : Value → Shared → Prop} (h : Q .brk s) : Go F (.Break pos :: rest) Q E s := ⟨ex_break h⟩
theorem Nx.brk {rest : List Stmt} {Q : Flow → Shared → Prop} {E : Value → Shared → Prop} (h : Q .brk s) : Nx F rest Q E .brk s := h
theorem Nx.ret {rest : List Stmt} {Q : Flow → Shared → Prop} {E : Value → Shared → Prop} {v : Value} (h : Q (.ret v) s) : Nx F rest Q E (.ret v) s := h
theorem go_assign {x : Str} {px pos : Pos} {e : Expr} {V : Val} {rest : List Stmt} {Q : Flow → Shared → Prop} {E : Value → Shared → Prop} (S : FS F Nv ω ρ sr Nw s) (he : Ev X n sc ρ e V) (hx : own.contains x = true) (hx0 : (x == (".0" : Str)) = false)
    (hsw : swapsWith e (some (.Name x px)) pos.line F.env = pure false)
    (k : ∀ s', FS F Nv ω (upd ρ x V) sr Nw s' → Go F rest Q E s') : Go F (.Assign [.Name x px] e pos :: rest) Q E s := ⟨ex_assign S he hx hx0 hsw fun s' S => (k s' S).go⟩
/-- x = [.. for ..], the list stored behind the comprehension's end -/
theorem go_assignL {x : Str} {px pos cpos : Pos} {elt : Expr} {gens : List Comprehension} {scope : Scope} {V : Val} {rest : List Stmt} {Q : Flow → Shared → Prop} {E : Value → Shared → Prop} (S : FS F Nv ω ρ sr Nw s)
    (he : Ev X n sc ρ (.ListComp elt gens scope cpos) V) (hx : own.contains x = true) (hx0 : (x == (".0" : Str)) = false) (hsw : swapB sc scope x px cpos = false)
    (k : ∀ s', FS F Nv ω (upd ρ x V) sr Nw s' → Go F rest Q E s') : Go F (.Assign [.Name x px] (.ListComp elt gens scope cpos) pos :: rest) Q E s := ⟨ex_assign S he hx hx0 (swaps_comp S.cst.is hsw) fun s' S => (k s' S).go⟩
theorem go_assignC {x : Str} {px pos cpos : Pos} {elt iter target : Expr} {ifs : List Expr} {crest : List Comprehension} {scope : Scope} {V : Val} {rest : List Stmt} {Q : Flow → Shared → Prop} {E : Value → Shared → Prop} (S : FS F Nv ω ρ sr Nw s)
    (he : Cp X n sc ρ (.ListComp elt (⟨target, iter, ifs, 0⟩ :: crest) scope cpos) scope iter V) (hx : own.contains x = true) (hx0 : (x == (".0" : Str)) = false) (hsw : swapB sc scope x px cpos = true)
    (k : ∀ s', FS F Nv ω (upd ρ x V) sr Nw s' → Go F rest Q E s') : Go F (.Assign [.Name x px] (.ListComp elt (⟨target, iter, ifs, 0⟩ :: crest) scope cpos) pos :: rest) Q E s := ⟨ex_assignC S he hx hx0 (swaps_comp S.cst.is hsw) fun s' S => (k s' S).go⟩
theorem go_if {t : Expr} {body orelse rest : List Stmt} {pos : Pos} {b : Bool} {Q : Flow → Shared → Prop} {E : Value → Shared → Prop} (S : FS F Nv ω ρ sr Nw s) (ht : EvT X n sc ρ t b)
    (h₁ : b = true → ∀ s', FS F Nv ω ρ sr Nw s' → Go F body (Nx F rest Q E) E s') (h₂ : b = false → ∀ s', FS F Nv ω ρ sr Nw s' → Go F orelse (Nx F rest Q E) E s') : Go F (.If t body orelse pos :: rest) Q E s :=
  ⟨ex_if S ht (fun hb s' S => (h₁ hb s' S).nx) fun hb s' S => (h₂ hb s' S).nx⟩
theorem go_return {e : Expr} {pos : Pos} {V : Val} {rest : List Stmt} {Q : Flow → Shared → Prop} {E : Value → Shared → Prop} (S : FS F Nv ω ρ sr Nw s) (he : Ev X n sc ρ e V)
    (k : ∀ v s', V.holds (vw Nv s'.heap) v → FS F Nv ω ρ sr Nw s' → Q (.ret v) s') : Go F (.Return (some e) pos :: rest) Q E s := ⟨ex_return S he k⟩
theorem go_aug {x : Str} {px pos : Pos} {op : Operator} {e : Expr} {V₁ V₂ V : Val} {rest : List Stmt} {Q : Flow → Shared → Prop} {E : Value → Shared → Prop} (S : FS F Nv ω ρ sr Nw s) (h₁ : ρ x = some V₁) (hs : (sees sc x && okName x) = true) (he : Ev X n sc ρ e V₂)
    (ho : Op2 X n (inplaceOp op) V₁ V₂ V) (hx : own.contains x = true) (hx0 : (x == (".0" : Str)) = false)
    (k : ∀ s', FS F Nv ω (upd ρ x V) sr Nw s' → Go F rest Q E s') : Go F (.AugAssign (.Name x px) op e pos :: rest) Q E s := ⟨ex_aug S h₁ hs he ho hx hx0 fun s' S => (k s' S).go⟩
theorem go_own {x : Str} {px pos lpos : Pos} {es : List Expr} {α : Type} {K : α → Val} {l : List α} {rest : List Stmt} {Q : Flow → Shared → Prop} {E : Value → Shared → Prop} (S : FS F Nv ω ρ sr Nw s) (he : EvAll X n sc ρ K es l) (hlen : l.length ≤ 1000)
    (hx : own.contains x = true) (hx0 : (x == (".0" : Str)) = false)
    (k : ∀ D s', D ∉ ω.map (·.1) → FS F (D :: Nv) ((D, listP K l) :: ω) (upd ρ x (refV D)) sr Nw s' → Go F rest Q E s') : Go F (.Assign [.Name x px] (.List es lpos) pos :: rest) Q E s :=
  ⟨ex_own S he hlen hx hx0 fun D s' h S => (k D s' h S).go⟩
theorem go_append {x : Str} {px apos pos spos : Pos} {e : Expr} {D : Addr} {α : Type} {K : α → Val} {l : List α} {y : α} {rest : List Stmt} {Q : Flow → Shared → Prop} {E : Value → Shared → Prop} (S : FS F Nv ((D, listP K l) :: ω) ρ sr Nw s)
    (h₁ : ρ x = some (refV D)) (hs : (sees sc x && okName x) = true) (he : Ev X n sc ρ e (K y)) (hst : isStar e = false) (hlen : l.length ≤ 900)
    (k : ∀ s', FS F Nv ((D, listP K (l ++ [y])) :: ω) ρ sr Nw s' → Go F rest Q E s')
    (hev : ∀ env : Env, eval (.Call (.Attribute (.Name x px) "append" apos) [e] [] pos) env = (do
      let ov ← eval (.Name x px) env
      standAt apos.atName
      let (f, first) ← holding [ov] (getMethod ov "append" (do return (← importBound (.Name x px) env).getD true))
      callWith pos f first (backTo pos (starEach [e] env)) []) := by intro _; rfl)
    (hsw : ∀ env, swapsWith (.Call (.Attribute (.Name x px) "append" apos) [e] [] pos) none spos.line env = pure false := by intro _; rfl) :
    Go F (.Expr (.Call (.Attribute (.Name x px) "append" apos) [e] [] pos) spos :: rest) Q E s := ⟨ex_append S h₁ hs he hst hlen (fun s' S => (k s' S).go) hev S.intv (hsw _)⟩
theorem go_for {x : Str} {px pos : Pos} {iter : Expr} {body orelse rest : List Stmt} {V : Val} {α : Type} {K : α → Val} {xs : List α} (ωs : Nat → List (Addr × OwnP)) (ρs : Nat → Rho) (Pb : List (Addr × OwnP) → Rho → Prop) {Q : Flow → Shared → Prop} {E : Value → Shared → Prop}
    (S : FS F Nv (ωs 0) (ρs 0) sr Nw s) (hiter : Ev X n sc (ρs 0) iter V) (hitr : Itr X n V K xs) (hx : own.contains x = true) (hx0 : (x == (".0" : Str)) = false) (hω : ∀ i p, p ∈ ωs i → p.1 ∈ (ωs 0).map (·.1)) (hPb : ∀ ω' ρ', Pb ω' ρ' → ∀ p ∈ ω', p.1 ∈ (ωs 0).map (·.1))
    (hbody : ∀ i a I si s' E', xs[i]? = some a → FS F (I :: Nv) (ωs i) (upd (ρs i) x (K a)) si ((ωs 0).map (·.1)) s' →
      Go F body (fun f s'' => (f = .next ∧ FS F (I :: Nv) (ωs (i + 1)) (ρs (i + 1)) si ((ωs 0).map (·.1)) s'') ∨ (f = .brk ∧ ∃ ω' ρ', Pb ω' ρ' ∧ FS F (I :: Nv) ω' ρ' si ((ωs 0).map (·.1)) s'')) E' s')
    (hend : ∀ s' E', FS F Nv (ωs xs.length) (ρs xs.length) sr Nw s' → Go F orelse (Nx F rest Q E) E' s')
    (hbrk : ∀ ω' ρ' s', Pb ω' ρ' → FS F Nv ω' ρ' sr Nw s' → Go F rest Q E s')
    (hs : ∀ env v, foldedSetIterable iter env v = pure v := by intro _ _; rfl) :
    Go F (.For (.Name x px) iter body orelse pos :: rest) Q E s :=
  ⟨ex_for S hiter hitr hx hx0 hω hPb (fun i a I si s' E' ha S => (hbody i a I si s' E' ha S).go) (fun s' E' S => (hend s' E' S).nx) (fun ω' ρ' s' h S => (hbrk ω' ρ' s' h S).go) (hs _)⟩
/-- a loop that is never broken -/
theorem go_forN {x : Str} {px pos : Pos} {iter : Expr} {body rest : List Stmt} {V : Val} {α : Type} {K : α → Val} {xs : List α} (ωs : Nat → List (Addr × OwnP)) (ρs : Nat → Rho) {Q : Flow → Shared → Prop} {E : Value → Shared → Prop}
    (S : FS F Nv (ωs 0) (ρs 0) sr Nw s) (hiter : Ev X n sc (ρs 0) iter V) (hitr : Itr X n V K xs) (hx : own.contains x = true) (hx0 : (x == (".0" : Str)) = false) (hω : ∀ i p, p ∈ ωs i → p.1 ∈ (ωs 0).map (·.1))
    (hbody : ∀ i a I si s' (Q' : Flow → Shared → Prop) E', xs[i]? = some a → FS F (I :: Nv) (ωs i) (upd (ρs i) x (K a)) si ((ωs 0).map (·.1)) s' →
      (∀ s'', FS F (I :: Nv) (ωs (i + 1)) (ρs (i + 1)) si ((ωs 0).map (·.1)) s'' → Q' .next s'') → Go F body Q' E' s')
    (hend : ∀ s', FS F Nv (ωs xs.length) (ρs xs.length) sr Nw s' → Go F rest Q E s')
    (hs : ∀ env v, foldedSetIterable iter env v = pure v := by intro _ _; rfl) :
    Go F (.For (.Name x px) iter body [] pos :: rest) Q E s :=
  go_for (Pb := fun _ _ => False) ωs ρs S hiter hitr hx hx0 hω (fun _ _ h => h.elim) (fun i a I si s' E' ha S => hbody i a I si s' _ E' ha S fun s'' h => .inl ⟨rfl, h⟩) (fun s' E' S => go_nx (hend s' S)) (fun _ _ _ h => h.elim) hs
theorem fn_defG {a : Addr} {o : Obj} {fd : FuncData} {body : List Stmt} {x : Str} {V W : Val} {own : List Str} (ha : X.K.lookup a = some o) (hd : o.data = .func fd) (hbody : fd.body = .stmts body) (hclo : fd.closure = []) (hg : fd.globals = mainGlobals) (hb : fd.builtins = builtinsNs)
    (hcode : ∀ h, X.K.In h → h.CodeRec fd.code fd.qualname) (hbind : ∀ v, bindArgs fd ⟨[v], []⟩ = pure [(x, v)]) (hok : defOk fd.scope own = true) (hx : own.contains x = true)
    (run : ∀ (F : Frm X n fd.scope own) (s : Shared), FS F F.N [] (upd rho0 x V) s [] s →
      Go F body (fun f s' => ∃ v, f = .ret v ∧ W.holds (vw F.N s'.heap) v ∧ Kp F.s₀ s') (fun _ _ => False) s) : Fn X (n + 1) (.ref a) [V] W :=
  fn_def ha hd hbody hclo hg hb hcode hbind hok (mem_of hx) fun F s S => (run F s S).go
theorem FS.fresh {D : Addr} {p : OwnP} (S : FS F Nv ((D, p) :: ω) ρ sr Nw s) : D ∉ F.N := fun h =>
  absurd (S.cst.base₀.live D h) (Nat.not_lt.mpr (S.mine _ List.mem_cons_self).2.1)
end
end Mine
open PySem PySem.W PyProof.Rows PySem.MeetsSeq PySem.SeqRoads2
set_option Elab.async false
set_option autoImplicit false
set_option linter.unusedVariables false
namespace Mine
local macro_rules | `(tactic| walk_at "look") => `(tactic| (repeat (with_reducible first | exact upd_eq | refine (upd_ne (by decide +kernel)).trans ?_)))
local macro_rules | `(tactic| walk_at "nm") => `(tactic| exact Ev.name (by walk_at "look") (by decide +kernel))
local macro_rules | `(tactic| walk_at "wk") => `(tactic| (repeat (first | exact Wk.nil | refine Wk.upd (by walk_at "look") (VImp.refl _) ?_)))
section
variable {X : Cx} {n : Nat} {sc : Scope} {ρ : Rho}
/-! natural numbers -/
abbrev zV (k : Nat) : Val := iV (k : Int)
theorem zV_eq {a b : Nat} (h : a = b) : zV a = zV b := h ▸ rfl
theorem zV_of {a : Int} {b : Nat} (h : a = (b : Int)) : iV a = zV b := h ▸ rfl
theorem paired_map {α β : Type} {F : Value → β → Prop} {f : α → β} : ∀ {vs : List Value} {l : List α}, Paired F vs (l.map f) ↔ Paired (fun v x => F v (f x)) vs l
  | [], [] => ⟨fun _ => .nil, fun _ => .nil⟩
  | [], _ :: _ => ⟨fun h => (nomatch h), fun h => (nomatch h)⟩
  | _ :: _, [] => ⟨fun h => (nomatch h), fun h => (nomatch h)⟩
  | v :: vs, x :: l => ⟨fun h => by cases h with | cons a b => exact .cons a (paired_map.mp b), fun h => by cases h with | cons a b => exact .cons a (paired_map.mpr b)⟩
theorem lv_map {α β : Type} {K : β → Val} {f : α → β} {l : List α} : VImp (lV K (l.map f)) (lV (fun x => K (f x)) l) := by
  rintro g v ⟨a, vs, k, rfl, ho, hp⟩
  exact ⟨a, vs, k, rfl, ho, paired_map.mp hp⟩
theorem lv_unmap {α β : Type} {K : β → Val} {f : α → β} {l : List α} : VImp (lV (fun x => K (f x)) l) (lV K (l.map f)) := by
  rintro g v ⟨a, vs, k, rfl, ho, hp⟩
  exact ⟨a, vs, k, rfl, ho, paired_map.mpr hp⟩
def natI (l : List Nat) : List Int := l.map fun k : Nat => (k : Int)
theorem lv_natI {l : List Nat} : VImp (lV zV l) (lV iV (natI l)) := lv_unmap (K := iV) (f := fun k : Nat => (k : Int))
theorem lv_ofI {l : List Nat} : VImp (lV iV (natI l)) (lV zV l) := lv_map (K := iV) (f := fun k : Nat => (k : Int))
theorem VImp.trans {U V W : Val} (h : VImp U V) (h' : VImp V W) : VImp U W := fun g v x => h' g v (h g v x)
theorem lv_imp {α : Type} {K J : α → Val} {l : List α} (h : ∀ x ∈ l, VImp (K x) (J x)) : VImp (lV K l) (lV J l) := by
  rintro g v ⟨a, vs, k, rfl, ho, hp⟩
  refine ⟨a, vs, k, rfl, ho, ?_⟩
  clear ho
  induction hp with
  | nil => exact .nil
  | cons hv _ ih => exact .cons (h _ List.mem_cons_self g _ hv) (ih fun x hx => h x (List.mem_cons_of_mem _ hx))
theorem Fn.one {f : Value} {V V' W W' : Val} (h : Fn X n f [V'] W') (hi : VImp V V') (ho : VImp W' W) : Fn X n f [V] W := ⟨fun A N s vs E B hp => by
  cases hp with
  | cons h1 h2 =>
    cases h2
    exact wpAny_mono (h.go A N s [_] E B (.cons (hi _ _ h1) .nil)) (fun _ _ r => ⟨ho _ _ r.1, r.2⟩) fun _ _ e => e⟩

theorem Itr.map {α β : Type} {V : Val} {K : β → Val} {f : α → β} {l : List α} (h : Itr X n V K (l.map f)) : Itr X n V (fun x => K (f x)) l := fun A N s v E B hv => by
  refine wpAny_mono (h A N s v E B hv) (fun it s₂ hr => ?_) fun _ _ e => e
  obtain ⟨k, I, fp, P, St, rfl, h1, h2, W, hst, hfp, hP⟩ := hr
  rw [List.length_map] at W hP
  refine ⟨k, I, fp, P, St, rfl, h1, h2, W, hst, hfp, fun i u hi hu => ?_⟩
  obtain ⟨x, hx, hk⟩ := hP i u hi hu
  rw [List.getElem?_map] at hx
  cases hy : l[i]? with
  | none => rw [hy] at hx; cases hx
  | some y => rw [hy] at hx; cases hx; exact ⟨y, rfl, hk⟩
theorem itr_rangeN {m : Nat} (hm : m ≤ 1000) : Itr X n (rV 0 (m : Nat)) zV (List.range m) := by
  have h := itr_range (X := X) (n := n) (lo := 0) (m := m) (by decide) hm
  rw [show intsFrom 0 m = (List.range m).map fun k : Nat => (k : Int) by unfold intsFrom; simp, Int.zero_add] at h
  exact h.map
theorem itr_rangeN2 {lo m : Nat} (hlo : lo ≤ 1000) (hm : m ≤ 1000) : Itr X n (rV (lo : Nat) ((lo + m : Nat) : Int)) zV (List.range' lo m) := by
  have h := itr_range (X := X) (n := n) (lo := lo) (m := m) (by omega) hm
  rw [show intsFrom (lo : Int) m = (List.range' lo m).map fun k : Nat => (k : Int) by
    unfold intsFrom
    rw [List.range'_eq_map_range, List.map_map]
    exact List.map_congr_left fun a _ => by simp, ← Int.natCast_add] at h
  exact h.map

theorem op_addN {a b : Nat} : Op2 X n (binaryOp .Add) (zV a) (zV b) (zV (a + b)) := op_add
theorem op_iaddN {a b : Nat} : Op2 X n (inplaceOp .Add) (zV a) (zV b) (zV (a + b)) := op_iadd
theorem op_subN {a b : Nat} (h : b ≤ a) : Op2 X n (binaryOp .Sub) (zV a) (zV b) (zV (a - b)) := op_sub.cast (iV_eq (Int.natCast_sub h).symm)
theorem op_mulN {a b : Nat} (h : a < 2 ^ 63) : Op2 X n (binaryOp .Mult) (zV a) (zV b) (zV (a * b)) := (op_mul (by omega)).cast (iV_eq (Int.natCast_mul a b).symm)
theorem op_xorN {a b : Nat} : Op2 X n (binaryOp .BitXor) (zV a) (zV b) (zV (a ^^^ b)) := op_xor.cast (iV_eq (bitXor_nat a b))
theorem op_andN {a b : Nat} : Op2 X n (binaryOp .BitAnd) (zV a) (zV b) (zV (a &&& b)) := op_and.cast (iV_eq (bitAnd_nat a b))
theorem op_shrN {a b : Nat} : Op2 X n (binaryOp .RShift) (zV a) (zV b) (zV (a / 2 ^ b)) := (op_rshift (by omega)).cast (iV_eq (by rw [Int.toNat_natCast]; simp))
theorem op_pow2N {b : Nat} (h : b ≤ 1000) : Op2 X n (binaryOp .Pow) (zV 2) (zV b) (zV (2 ^ b)) := (op_pow (a := ((2 : Nat) : Int)) (by omega) (by
  rw [show Builtin.Int.intBits ((2 : Nat) : Int) = 2 by decide]
  omega)).cast (iV_eq (by rw [Int.toNat_natCast]; simp))
theorem op_fdivN {a b : Nat} (h0 : 0 < b) (h : b < 2 ^ 63) : Op2 X n (binaryOp .FloorDiv) (zV a) (zV b) (zV (a / b)) := (op_fdiv (by omega) (by omega)).cast (iV_eq (by simp))
theorem op_modN {a b : Nat} (h0 : 0 < b) : Op2 X n (binaryOp .Mod) (zV a) (zV b) (zV (a % b)) := (op_mod (by omega)).cast (iV_eq (by simp))
theorem cmp_ltN {a b : Nat} : Op2 X n (compareOp .Lt) (zV a) (zV b) (bV (decide (a < b))) := cmp_lt.cast (by congr 1; simp)
theorem cmp_gtN {a b : Nat} : Op2 X n (compareOp .Gt) (zV a) (zV b) (bV (decide (b < a))) := cmp_gt.cast (by congr 1; simp)
theorem cmp_leN {a b : Nat} : Op2 X n (compareOp .LtE) (zV a) (zV b) (bV (decide (a ≤ b))) := cmp_le.cast (by congr 1; simp)
theorem cmp_eqN {a b : Nat} : Op2 X n (compareOp .Eq) (zV a) (zV b) (bV (decide (a = b))) := cmp_eq.cast (by
  congr 1
  by_cases h : a = b
  · simp [h]
  · have : ¬ ((a : Int) = (b : Int)) := by omega
    simp [h, this])
theorem cmp_neN {a b : Nat} : Op2 X n (compareOp .NotEq) (zV a) (zV b) (bV (decide (a ≠ b))) := cmp_ne.cast (by
  congr 1
  by_cases h : a = b
  · simp [h]
  · have : ¬ ((a : Int) = (b : Int)) := by omega
    simp [h, this])
theorem EvT.nat {e : Expr} {k : Nat} (h : Ev X n sc ρ e (zV k)) (he : ∀ env whole, PySem.isTrue e env whole = (do let v ← whole; standAt e.pos; holding [v] (truthy v)) := by intro _ _; rfl) : EvT X n sc ρ e (decide (k ≠ 0)) :=
  (EvT.int (i := (k : Int)) h he).cast (by
    by_cases h : k = 0
    · subst h; rfl
    · have : (k : Int) ≠ 0 := by omega
      simp [h])
theorem Ev.const_nat (i : Nat) {k : Nat} {pos : Pos} : Ev X n sc ρ (.Constant (.int (i : Int)) k pos) (zV i) := Ev.const_int
theorem Ev.subN {α : Type} {K : α → Val} {e i : Expr} {l : List α} {k : Nat} {pos : Pos} (he : Ev X n sc ρ e (lV K l)) (hi : Ev X n sc ρ i (zV k)) (d : α) (hx : k < l.length) (hl : l.length ≤ 2 ^ 62) (hs : isSlice i = false) :
    Ev X n sc ρ (.Subscript e i pos) (K (l.getD k d)) := Ev.sub (k := (k : Int)) he hi (by omega) (by rw [Int.toNat_natCast]; simp [hx]) hl hs
theorem natI_sum : ∀ l : List Nat, (natI l).sum = (l.sum : Nat)
  | [] => rfl
  | a :: l => by
    have h := natI_sum l
    unfold natI at h ⊢
    rw [List.map_cons, List.sum_cons, h, List.sum_cons, Int.natCast_add]
theorem fn_sumN {l : List Nat} : Fn X n (.builtin "sum") [lV zV l] (zV l.sum) := fn_sum.one lv_natI (VImp.eq (iV_eq (natI_sum l)))
theorem Ev.sumN {e : Expr} {p pos : Pos} {l : List Nat} (h : Ev X n sc ρ e (lV zV l)) (hs : isStar e = false) (hk : sc.names.lookup (Str.ofString "sum") = some .globalImplicit) : Ev X n sc ρ (.Call (.Name "sum" p) [e] [] pos) (zV l.sum) :=
  Ev.callB (.cons ⟨hs, h⟩ .nil) fn_sumN (by decide +kernel) boot_sum' hk
theorem Ev.lenN {α : Type} {K : α → Val} {e : Expr} {p pos : Pos} {l : List α} (h : Ev X n sc ρ e (lV K l)) (hl : l.length ≤ 2 ^ 30) (hs : isStar e = false) (hk : sc.names.lookup (Str.ofString "len") = some .globalImplicit) : Ev X n sc ρ (.Call (.Name "len" p) [e] [] pos) (zV l.length) := Ev.len h hl hs hk
theorem Ev.rangeN {e : Expr} {p pos : Pos} {m : Nat} (h : Ev X n sc ρ e (zV m)) (hs : isStar e = false) (hk : sc.names.lookup (Str.ofString "range") = some .globalImplicit) : Ev X n sc ρ (.Call (.Name "range" p) [e] [] pos) (rV 0 (m : Nat)) := Ev.range1 h hs hk
theorem Ev.minN {e : Expr} {p pos : Pos} {l : List Nat} {m : Nat} (h : Ev X n sc ρ e (lV zV l)) (hm : m ∈ l) (hle : ∀ x ∈ l, m ≤ x) (hs : isStar e = false) (hk : sc.names.lookup (Str.ofString "min") = some .globalImplicit) : Ev X n sc ρ (.Call (.Name "min" p) [e] [] pos) (zV m) :=
  Ev.min (l := natI l) (h.imp lv_natI) (List.mem_map.mpr ⟨m, hm, rfl⟩) (fun x hx => by obtain ⟨y, hy, rfl⟩ := List.mem_map.mp hx; exact Int.ofNat_le.mpr (hle y hy)) hs hk
theorem enc_nat : Enc zV (fun k : Nat => PyData.int (k : Int)) (fun _ => True) 0 where
  reads := fun h => enc_int.reads h
  eqv := fun x y => by
    rw [enc_int.eqv]
    by_cases h : x = y
    · simp [h]
    · have : ¬ ((x : Int) = (y : Int)) := by omega
      simp [h, this]
  lay := fun _ _ => rfl
  depth := fun x => by simp [PyData.depth]
end
/-! medians of natural numbers -/
def insN (a : Nat) : List Nat → List Nat
  | [] => [a]
  | b :: l => if a ≤ b then a :: b :: l else b :: insN a l
def isortN : List Nat → List Nat
  | [] => []
  | a :: l => insN a (isortN l)
theorem ins_natI (a : Nat) : ∀ l : List Nat, ins (a : Int) (natI l) = natI (insN a l)
  | [] => rfl
  | b :: l => by
    show (if (a : Int) ≤ (b : Int) then (a : Int) :: (b : Int) :: natI l else (b : Int) :: ins (a : Int) (natI l)) = natI (if a ≤ b then a :: b :: l else b :: insN a l)
    by_cases h : a ≤ b
    · rw [if_pos h, if_pos (Int.ofNat_le.mpr h)]; rfl
    · rw [if_neg h, if_neg (by omega), ins_natI a l]; rfl
theorem isort_natI : ∀ l : List Nat, isort (natI l) = natI (isortN l)
  | [] => rfl
  | a :: l => by
    show ins (a : Int) (isort (natI l)) = natI (insN a (isortN l))
    rw [isort_natI l, ins_natI]
theorem natI_length (l : List Nat) : (natI l).length = l.length := by simp [natI]
theorem natI_getD (l : List Nat) (i : Nat) : (natI l).getD i 0 = ((l.getD i 0 : Nat) : Int) := by
  unfold natI
  by_cases h : i < l.length <;> simp [List.getD, h]
def medLowN (l : List Nat) : Nat := if l.length % 2 = 1 then (isortN l).getD (l.length / 2) 0 else (isortN l).getD (l.length / 2 - 1) 0
def medHighN (l : List Nat) : Nat := (isortN l).getD (l.length / 2) 0
theorem medLow_natI (l : List Nat) : medLow (natI l) = (medLowN l : Nat) := by
  unfold medLow medLowN
  rw [isort_natI, natI_length, natI_getD, natI_getD]
  by_cases h : l.length % 2 = 1
  · rw [if_pos h, if_pos (by rw [beq_iff_eq]; omega)]
  · rw [if_neg h, if_neg (by rw [beq_iff_eq]; omega)]
theorem medHigh_natI (l : List Nat) : medHigh (natI l) = (medHighN l : Nat) := by
  unfold medHigh medHighN
  rw [isort_natI, natI_length, natI_getD]
end Mine
open PySem PySem.W PyProof.Rows PySem.MeetsSeq PySem.SeqRoads2
set_option Elab.async false
set_option autoImplicit false
set_option linter.unusedVariables false
namespace Mine
local macro_rules | `(tactic| walk_at "look") => `(tactic| (repeat (with_reducible first | exact upd_eq | refine (upd_ne (by decide +kernel)).trans ?_)))
local macro_rules | `(tactic| walk_at "nm") => `(tactic| exact Ev.name (by walk_at "look") (by decide +kernel))
local macro_rules | `(tactic| walk_at "wk") => `(tactic| (repeat (first | exact Wk.nil | refine Wk.upd (by walk_at "look") (VImp.refl _) ?_)))
open PySem.AutoSeq1 PySem.MeetsSeq3 PySem.MeetsSeq
/-- does the first of two lists of one length stand ahead of the other? -/
def lexLt : List Nat → List Nat → Bool
  | a :: x, b :: y => if a = b then lexLt x y else decide (a < b)
  | _, _ => false
theorem lexLt_cons {a b : Nat} {x y : List Nat} : lexLt (a :: x) (b :: y) = if a = b then lexLt x y else decide (a < b) := by rw [lexLt]
set_option maxHeartbeats 2000000 in
theorem lt_loop (l b : Addr) (items items2 : Array Value) (n n2 : Nat) (xs ys : List Nat) (h1 : items.size = xs.length) (h2 : items2.size = ys.length) (hxy : xs.length = ys.length)
    (g1 : ∀ j (h : j < items.size), ∃ t, items[j] = .int (xs[j]'(h1 ▸ h) : Nat) t) (g2 : ∀ j (h : j < items2.size), ∃ t, items2[j] = .int (ys[j]'(h2 ▸ h) : Nat) t) (k : Nat) :
    ∀ i : Nat, items.size - i = k → Meets (Builtin.«list.__eq__.loop» ⟨[.ref l, .ref b, rawInt i, rawInt 0], []⟩)
      (fun _ R s => s.heap.get? l = some { cls := .type "list", dict := none, data := .seq items n, slots := #[] } ∧ s.heap.get? b = some { cls := .type "list", dict := none, data := .seq items2 n2, slots := #[] } ∧
        R (.ok (.ret (.bool (lexLt (xs.drop i) (ys.drop i))))) s) := by
  induction k with
  | zero =>
    intro i hk prog w A R s h
    obtain ⟨hp, g, d, tk, os⟩ := s; obtain ⟨hl, hb, h⟩ := h
    wp_walk using wpAny_loadPart' hl, wpAny_loadPart' hb
    have hi1 : items[((i : Nat) : Int).toNat]? = none := by simp; omega
    have hi2 : items2[((i : Nat) : Int).toNat]? = none := by simp; omega
    have hd : xs.drop i = [] := by simp; omega
    rw [hd] at h
    rw [hi1, hi2]
    wp_walk using wpAny_loadPart' hl, wpAny_loadPart' hb
    show R (.ok (.ret (.bool (decide (items.size < items2.size))))) _
    have e : decide (items.size < items2.size) = false := decide_eq_false (by omega)
    rw [e]
    exact h
  | succ k ih =>
    intro i hk prog w A R s h
    obtain ⟨hp, g, d, tk, os⟩ := s; obtain ⟨hl, hb, h⟩ := h
    wp_walk using wpAny_loadPart' hl, wpAny_loadPart' hb
    have hlt : i < items.size := by omega
    have hlt2 : i < items2.size := by omega
    have hi1 : items[((i : Nat) : Int).toNat]? = some items[i] := by simp [hlt]
    have hi2 : items2[((i : Nat) : Int).toNat]? = some items2[i] := by simp [hlt2]
    obtain ⟨t, e1⟩ := g1 i hlt
    obtain ⟨u, e2⟩ := g2 i hlt2
    have hx : xs.drop i = xs[i]'(h1 ▸ hlt) :: xs.drop (i + 1) := List.drop_eq_getElem_cons _
    have hy : ys.drop i = ys[i]'(h2 ▸ hlt2) :: ys.drop (i + 1) := List.drop_eq_getElem_cons _
    have hc : ((i : Int) + 1) = ((i + 1 : Nat) : Int) := by push_cast; rfl
    rw [hx, hy, lexLt_cons] at h
    rw [hi1, hi2, e1, e2]
    refine wpAny_bind (EqGives.int _ _ t u prog w _ _ _ _ ?_)
    by_cases he : xs[i]'(h1 ▸ hlt) = ys[i]'(h2 ▸ hlt2)
    · rw [if_pos he] at h
      have hb' : (((xs[i]'(h1 ▸ hlt) : Nat) : Int) == ((ys[i]'(h2 ▸ hlt2) : Nat) : Int)) = true := by rw [he]; simp
      rw [hb']
      wp_walk
      rw [hc]
      exact ⟨plainId_quiet plain_eq_loop _, codeAny_builtin entry_eq_loop (by
        rw [Around.under_plainId plain_eq_loop _]
        exact ih (i + 1) (by omega) prog w A R _ ⟨hl, hb, h⟩)⟩
    · rw [if_neg he] at h
      have hb' : (((xs[i]'(h1 ▸ hlt) : Nat) : Int) == ((ys[i]'(h2 ▸ hlt2) : Nat) : Int)) = false := by
        rw [beq_eq_false_iff_ne]; omega
      rw [hb']
      wp_walk using wpAny_loadPart' hl, wpAny_loadPart' hb
      rw [hi1, hi2, e1, e2]
      refine wpAny_bind (wpAny_lt_int ?_)
      have e3 : decide (((xs[i]'(h1 ▸ hlt) : Nat) : Int) < ((ys[i]'(h2 ▸ hlt2) : Nat) : Int)) = decide (xs[i]'(h1 ▸ hlt) < ys[i]'(h2 ▸ hlt2)) := by simp
      rw [e3]
      exact wpAny_pure h
end Mine
open PySem PySem.W PyProof.Rows PySem.MeetsSeq PySem.SeqRoads2
set_option Elab.async false
set_option autoImplicit false
set_option linter.unusedVariables false
namespace Mine
/-! the comparisons that sorted asks for lead to a sorted list -/
section
variable (f : Nat → Nat → Bool) (N : Nat)
def Run {α : Type} (P : α → Prop) : KasT α → Prop
  | .ret a => P a
  | .ask i j k => i < N ∧ j < N ∧ Run P (k (f i j))
variable {f : Nat → Nat → Bool} {N : Nat}
theorem Run.mono {α : Type} {P P' : α → Prop} (h : ∀ a, P a → P' a) : ∀ {t : KasT α}, Run f N P t → Run f N P' t
  | .ret a, r => h a r
  | .ask i j k, r => ⟨r.1, r.2.1, Run.mono h r.2.2⟩
theorem Run.bind {α β : Type} {P : β → Prop} {g : α → KasT β} : ∀ {t : KasT α}, Run f N (fun a => Run f N P (g a)) t → Run f N P (t.bind g)
  | .ret a, r => r
  | .ask i j k, r => ⟨r.1, r.2.1, Run.bind r.2.2⟩

structure Ord (f : Nat → Nat → Bool) : Prop where
  refl : ∀ a, f a a = false
  tr : ∀ a b c, f b a = false → f c b = false → f c a = false
  as : ∀ a b, f a b = true → f b a = false
/-- a is not behind b -/
def Le (f : Nat → Nat → Bool) (a b : Nat) : Prop := f b a = false
structure Gp (N : Nat) (p : Array Nat) : Prop where
  size : p.size = N
  perm : p.toList.Perm (List.range N)
theorem Gp.lt {p : Array Nat} (G : Gp N p) {i : Nat} (h : i < N) : p.getD i 0 < N := by
  have h1 : i < p.size := by rw [G.size]; exact h
  have e : p.getD i 0 = p[i] := by simp [Array.getD, h1]
  rw [e]
  have hm : p[i] ∈ p.toList := by simp
  simpa using G.perm.mem_iff.mp hm
def Up (f : Nat → Nat → Bool) (p : Array Nat) (k : Nat) : Prop := ∀ i j, i ≤ j → j < k → Le f (p.getD i 0) (p.getD j 0)
def Dn (f : Nat → Nat → Bool) (p : Array Nat) (k : Nat) : Prop := ∀ i j, i ≤ j → j < k → Le f (p.getD j 0) (p.getD i 0)
theorem getD_eq (p : Array Nat) (i : Nat) : p.getD i 0 = (p[i]?).getD 0 := by simp [Array.getD_eq_getD_getElem?]
theorem rev_getD {p : Array Nat} {i j : Nat} (hj : j ≤ p.size) (k : Nat) : (kas_rev p i j).getD k 0 = if i ≤ k ∧ k < j then p.getD (i + j - 1 - k) 0 else p.getD k 0 := by
  unfold kas_rev
  rw [getD_eq, getElem?_mirror_all hj k]
  by_cases h1 : i ≤ k ∧ k < j
  · rw [if_pos h1, if_pos h1, getD_eq]
  · rw [if_neg h1, if_neg h1, getD_eq]
theorem rev_G {p : Array Nat} {i j : Nat} (G : Gp N p) : Gp N (kas_rev p i j) :=
  ⟨by unfold kas_rev; rw [mirror_size]; exact G.size, (Array.perm_iff_toList_perm.mp (mirror_perm p i j _)).trans G.perm⟩
theorem bub_getD {p : Array Nat} {s d : Nat} (hs : s < p.size) (hd : d ≤ s) (k : Nat) : (bubble p s d).getD k 0 = if k = s - d then p.getD s 0 else if s - d < k ∧ k ≤ s then p.getD (k - 1) 0 else p.getD k 0 := by
  rw [getD_eq, getElem?_bubble hs d hd k]
  by_cases h1 : k = s - d
  · rw [if_pos h1, if_pos h1, getD_eq]
  · rw [if_neg h1, if_neg h1]
    by_cases h2 : s - d < k ∧ k ≤ s
    · rw [if_pos h2, if_pos h2, getD_eq]
    · rw [if_neg h2, if_neg h2, getD_eq]
theorem bub_G {p : Array Nat} {s d : Nat} (G : Gp N p) : Gp N (bubble p s d) :=
  ⟨by rw [bubble_size]; exact G.size, (Array.perm_iff_toList_perm.mp (bubble_perm p s d)).trans G.perm⟩

variable (O : Ord f)
include O
theorem Le.tr {a b c : Nat} (h : Le f a b) (h' : Le f b c) : Le f a c := O.tr a b c h h'
theorem up_succ {p : Array Nat} {n : Nat} (h1 : 1 ≤ n) (h : Up f p n) (hl : f (p.getD n 0) (p.getD (n - 1) 0) = false) : Up f p (n + 1) := fun i j hij hj => by
  by_cases e : j = n
  · subst e
    by_cases e' : i = j
    · subst e'; exact O.refl _
    · exact Le.tr O (h i (j - 1) (by omega) (by omega)) hl
  · exact h i j hij (by omega)
theorem dn_succ {p : Array Nat} {n : Nat} (h1 : 1 ≤ n) (h : Dn f p n) (hl : f (p.getD (n - 1) 0) (p.getD n 0) = false) : Dn f p (n + 1) := fun i j hij hj => by
  by_cases e : j = n
  · subst e
    by_cases e' : i = j
    · subst e'; exact O.refl _
    · exact Le.tr O hl (h i (j - 1) (by omega) (by omega))
  · exact h i j hij (by omega)

theorem run_asc {p : Array Nat} (G : Gp N p) {P : Nat → Prop} : ∀ (fu n : Nat), 1 ≤ n → n + fu = N → Up f p n → (∀ m, n ≤ m → m ≤ N → Up f p m → (m < N → f (p.getD m 0) (p.getD (m - 1) 0) = true) → P m) → Run f N P (kas_asc p fu n)
  | 0, n, h1, h2, h, k => k n (Nat.le_refl _) (by omega) h fun h => by omega
  | fu + 1, n, h1, h2, h, k => by
    refine ⟨G.lt (by omega), G.lt (by omega), ?_⟩
    cases hc : f (p.getD n 0) (p.getD (n - 1) 0) with
    | true => exact k n (Nat.le_refl _) (by omega) h fun _ => hc
    | false => exact run_asc G fu (n + 1) (by omega) (by omega) (up_succ O h1 h hc) fun m h3 h4 h5 h6 => k m (by omega) h4 h5 h6

/-- the q + 1 items ahead of n are alike -/
def Same (f : Nat → Nat → Bool) (p : Array Nat) (n q : Nat) : Prop := ∀ i j, n - (q + 1) ≤ i → i < n → n - (q + 1) ≤ j → j < n → Le f (p.getD i 0) (p.getD j 0)
theorem rev_same {p : Array Nat} {n q : Nat} (G : Gp N p) (hn : n ≤ N) (hS : Same f p n q) (k : Nat) (hk : k < n) : Le f ((kas_rev p (n - (q + 1)) n).getD k 0) (p.getD k 0) ∧ Le f (p.getD k 0) ((kas_rev p (n - (q + 1)) n).getD k 0) := by
  rw [rev_getD (by rw [G.size]; exact hn)]
  split
  · exact ⟨hS _ _ (by omega) (by omega) (by omega) (by omega), hS _ _ (by omega) (by omega) (by omega) (by omega)⟩
  · exact ⟨O.refl _, O.refl _⟩
theorem rev_dn {p : Array Nat} {n q : Nat} (G : Gp N p) (hn : n ≤ N) (hS : Same f p n q) (h : Dn f p n) : Dn f (kas_rev p (n - (q + 1)) n) n := fun i j hij hj =>
  Le.tr O (rev_same O G hn hS j hj).1 (Le.tr O (h i j hij hj) (rev_same O G hn hS i (by omega)).2)
theorem run_desc {P : Array Nat × Nat × Nat → Prop} : ∀ (fu : Nat) (p : Array Nat) (n q : Nat), Gp N p → q + 1 ≤ n → n + fu = N → Dn f p n → Same f p n q →
    (∀ p' m q', Gp N p' → q' + 1 ≤ m → m ≤ N → Dn f p' m → Same f p' m q' → P (p', m, q')) → Run f N P (kas_desc fu p n q)
  | 0, p, n, q, G, h1, h2, h, hS, k => k p n q G h1 (by omega) h hS
  | fu + 1, p, n, q, G, h1, h2, h, hS, k => by
    refine ⟨G.lt (by omega), G.lt (by omega), ?_⟩
    cases hc : f (p.getD n 0) (p.getD (n - 1) 0) with
    | true =>
      dsimp only
      rw [if_pos rfl]
      have hd : Dn f p (n + 1) := dn_succ O (by omega) h (O.as _ _ hc)
      have one : ∀ p' : Array Nat, Same f p' (n + 1) 0 := fun p' i j h3 h4 h5 h6 => by
        have : i = j := by omega
        subst this; exact O.refl _
      by_cases hq : q > 0
      · rw [if_pos hq]
        refine run_desc fu _ (n + 1) 0 (rev_G G) (by omega) (by omega) ?_ (one _) k
        refine dn_succ O (by omega) (rev_dn O G (by omega) hS h) ?_
        have e := rev_same O G (by omega) hS (n - 1) (by omega)
        have e2 : (kas_rev p (n - (q + 1)) n).getD n 0 = p.getD n 0 := by rw [rev_getD (by rw [G.size]; omega), if_neg (by omega)]
        rw [e2]
        exact Le.tr O (O.as _ _ hc : Le f (p.getD n 0) (p.getD (n - 1) 0)) e.2
      · rw [if_neg hq]
        exact run_desc fu p (n + 1) 0 G (by omega) (by omega) hd (one _) k
    | false =>
      dsimp only; rw [if_neg Bool.false_ne_true]
      refine ⟨G.lt (by omega), G.lt (by omega), ?_⟩
      cases hd : f (p.getD (n - 1) 0) (p.getD n 0) with
      | true => exact k p n q G h1 (by omega) h hS
      | false =>
        dsimp only; rw [if_neg Bool.false_ne_true]
        refine run_desc fu p (n + 1) (q + 1) G (by omega) (by omega) (dn_succ O (by omega) h hd) (fun i j h3 h4 h5 h6 => ?_) k
        have a1 : Le f (p.getD (n - 1) 0) (p.getD n 0) := hc
        have a2 : Le f (p.getD n 0) (p.getD (n - 1) 0) := hd
        by_cases ei : i = n <;> by_cases ej : j = n
        · subst ei; subst ej; exact O.refl _
        · subst ei; exact Le.tr O a2 (hS _ _ (by omega) (by omega) (by omega) (by omega))
        · subst ej; exact Le.tr O (hS _ _ (by omega) (by omega) (by omega) (by omega)) a1
        · exact hS _ _ (by omega) (by omega) (by omega) (by omega)

def Done (f : Nat → Nat → Bool) (N : Nat) : Nat × Array Nat → Prop := fun r => Gp N r.2 ∧ r.1 ≤ N ∧ Up f r.2 r.1
theorem run_tail3 {p : Array Nat} {n : Nat} (G : Gp N p) (h1 : 1 ≤ n) (hn : n ≤ N) (h : Dn f p n) : Run f N (Done f N) (kas_tail3 n N p) := by
  unfold kas_tail3
  refine Run.bind (run_asc O (rev_G G) (N - n) n h1 (by omega) (fun i j hij hj => ?_) fun m h3 h4 h5 _ => ⟨rev_G G, h4, h5⟩)
  rw [rev_getD (by rw [G.size]; exact hn), rev_getD (by rw [G.size]; exact hn), if_pos ⟨by omega, by omega⟩, if_pos ⟨by omega, by omega⟩]
  exact h _ _ (by omega) (by omega)
theorem run_descPart {p : Array Nat} {n : Nat} (G : Gp N p) (hn : n + 1 ≤ N) (h : Dn f p (n + 1)) : Run f N (Done f N) (kas_descPart n N p) := by
  unfold kas_descPart
  refine Run.bind (run_desc O (N - (n + 1)) p (n + 1) 0 G (by omega) (by omega) h (fun i j h3 h4 h5 h6 => by
    have : i = j := by omega
    subst this; exact O.refl _) fun p' m q' G' h1 h2 hd hS => ?_)
  show Run f N (Done f N) (if q' > 0 then kas_tail3 m N (kas_rev p' (m - (q' + 1)) m) else kas_tail3 m N p')
  split
  · exact run_tail3 O (rev_G G') (by omega) h2 (rev_dn O G' h2 hS hd)
  · exact run_tail3 O G' (by omega) h2 hd
theorem run_count {p : Array Nat} (G : Gp N p) (hN : 1 ≤ N) : Run f N (Done f N) (kas_count N p) := by
  unfold kas_count
  refine Run.bind (run_asc O G (N - 1) 1 (Nat.le_refl _) (by omega) (fun i j hij hj => by
    have : i = j := by omega
    subst this; exact O.refl _) fun m h1 h2 hu hs => ?_)
  by_cases e : m = N
  · subst e
    rw [if_pos (by simp)]
    exact ⟨G, Nat.le_refl _, hu⟩
  · rw [if_neg (by simpa using e)]
    have hlt := hs (by omega)
    by_cases h3 : m > 1
    · rw [if_pos h3]
      refine ⟨G.lt (by omega), G.lt (by omega), ?_⟩
      cases hc : f (p.getD 0 0) (p.getD (m - 1) 0) with
      | true => exact ⟨G, h2, hu⟩
      | false =>
        dsimp only; rw [if_neg Bool.false_ne_true]
        have hz : p.size = N := G.size
        have hm1 : (kas_rev p 0 m).getD m 0 = p.getD m 0 := by rw [rev_getD (by omega), if_neg (by omega)]
        refine run_descPart O (rev_G G) (by omega) (dn_succ O (by omega) (fun i j hij hj => ?_) ?_)
        · rw [rev_getD (by omega), rev_getD (by omega), if_pos ⟨by omega, by omega⟩, if_pos ⟨by omega, by omega⟩]
          exact hu _ _ (by omega) (by omega)
        · rw [hm1, rev_getD (by omega), if_pos ⟨by omega, by omega⟩]
          have a1 : Le f (p.getD m 0) (p.getD (m - 1) 0) := O.as _ _ hlt
          exact Le.tr O a1 (Le.tr O (hc : Le f (p.getD (m - 1) 0) (p.getD 0 0)) (hu _ _ (by omega) (by omega)))
    · rw [if_neg h3]
      have : m = 1 := by omega
      subst this
      refine run_descPart O G (by omega) (dn_succ O (by omega) (fun i j hij hj => ?_) (O.as _ _ hlt))
      have : i = j := by omega
      subst this; exact O.refl _

theorem run_place {p : Array Nat} {k : Nat} (G : Gp N p) (hk : k < N) (hu : Up f p k) {P : Nat → Prop} : ∀ (fu l r : Nat), r - l ≤ fu → r ≤ k → l ≤ r → (∀ i, i < l → Le f (p.getD i 0) (p.getD k 0)) → (∀ i, r ≤ i → i < k → Le f (p.getD k 0) (p.getD i 0)) →
    (∀ m, m ≤ k → (∀ i, i < m → Le f (p.getD i 0) (p.getD k 0)) → (∀ i, m ≤ i → i < k → Le f (p.getD k 0) (p.getD i 0)) → P m) → Run f N P (kas_place p k fu l r)
  | 0, l, r, h1, h2, h3, hl, hr, K => K l (by omega) hl fun i h4 h5 => hr i (by omega) h5
  | fu + 1, l, r, h1, h2, h3, hl, hr, K => by
    show Run f N P (if l ≥ r then .ret l else .ask (p.getD k 0) (p.getD ((l + r) / 2) 0) fun c => if c = true then kas_place p k fu l ((l + r) / 2) else kas_place p k fu ((l + r) / 2 + 1) r)
    by_cases e : l ≥ r
    · rw [if_pos e]
      exact K l (by omega) hl fun i h4 h5 => hr i (by omega) h5
    · rw [if_neg e]
      refine ⟨G.lt hk, G.lt (by omega), ?_⟩
      cases hc : f (p.getD k 0) (p.getD ((l + r) / 2) 0) with
      | true =>
        dsimp only; rw [if_pos rfl]
        exact run_place G hk hu fu l _ (by omega) (by omega) (by omega) hl (fun i h4 h5 => Le.tr O (O.as _ _ hc) (hu _ _ h4 h5)) K
      | false =>
        dsimp only; rw [if_neg Bool.false_ne_true]
        exact run_place G hk hu fu _ r (by omega) h2 (by omega) (fun i h4 => Le.tr O (hu i _ (by omega) (by omega)) hc) hr K

theorem run_bin {P : Array Nat → Prop} (K : ∀ p, Gp N p → Up f p N → P p) : ∀ (fu : Nat) (p : Array Nat) (k : Nat), Gp N p → k + fu = N → Up f p k → Run f N P (kas_bin fu p k)
  | 0, p, k, G, h1, hu => K p G (by rw [← h1]; exact hu)
  | fu + 1, p, k, G, h1, hu => by
    refine Run.bind (run_place O G (by omega) hu k 0 k (by omega) (Nat.le_refl _) (Nat.zero_le _) (fun i h => by omega) (fun i h h' => by omega) fun m hm h2 h3 => ?_)
    refine run_bin K fu _ (k + 1) (bub_G G) (by omega) fun i j hij hj => ?_
    have hz : p.size = N := G.size
    rw [bub_getD (by omega) (by omega), bub_getD (by omega) (by omega)]
    have e : k - (k - m) = m := by omega
    rw [e]
    by_cases hi : i = m
    · by_cases hj' : j = m
      · rw [if_pos hi, if_pos hj']; exact O.refl _
      · rw [if_pos hi, if_neg hj', if_pos ⟨by omega, by omega⟩]; exact h3 _ (by omega) (by omega)
    · rw [if_neg hi]
      by_cases hj' : j = m
      · rw [if_pos hj', if_neg (by omega)]; exact h2 _ (by omega)
      · rw [if_neg hj']
        by_cases a1 : m < i ∧ i ≤ k
        · rw [if_pos a1, if_pos ⟨by omega, by omega⟩]; exact hu _ _ (by omega) (by omega)
        · rw [if_neg a1]
          by_cases a2 : m < j ∧ j ≤ k
          · rw [if_pos a2]; exact hu _ _ (by omega) (by omega)
          · rw [if_neg a2]
            exact hu _ _ hij (by omega)
theorem run_sort (hN : 1 ≤ N) : Run f N (fun p => Gp N p ∧ Up f p N) (kas_sort N) := by
  unfold kas_sort
  have G : Gp N (List.toArray (List.range N)) := ⟨by simp, by simp⟩
  refine Run.bind ((run_count O G hN).mono fun r hr => ?_)
  obtain ⟨m, p⟩ := r
  obtain ⟨G', h1, h2⟩ := hr
  show Run f N _ (if m < N then kas_bin (N - max m 1) p (max m 1) else .ret p)
  have hmx : max m 1 = m ∨ (m = 0 ∧ max m 1 = 1) := by omega
  by_cases e : m < N
  · rw [if_pos e]
    refine run_bin O (fun p a b => ⟨a, b⟩) _ p _ G' (by omega) ?_
    rcases hmx with h | ⟨h, h'⟩
    · rw [h]; exact h2
    · rw [h']
      intro i j hij hj
      have : i = j := by omega
      subst this; exact O.refl _
  · rw [if_neg e]
    have : m = N := Nat.le_antisymm h1 (by omega)
    subst this
    exact ⟨G', h2⟩
end
end Mine
open PySem PySem.W PyProof.Rows PySem.MeetsSeq PySem.SeqRoads2
set_option Elab.async false
set_option autoImplicit false
set_option linter.unusedVariables false
namespace Mine
open PySem.AutoSeq1 PySem.MeetsSeq3 PySem.MeetsSeq
/-! sorted of rows -/
theorem run_wp {f : Nat → Nat → Bool} {N : Nat} {α : Type} {P : α → Prop} {cmp : Nat → Nat → (Bool → Shared → Prop) → Shared → Prop} {s : Shared} (hc : ∀ i j C, i < N → j < N → C (f i j) s → cmp i j C s) : ∀ {t : KasT α}, Run f N P t → t.kasWp cmp (fun a s' => s' = s ∧ P a) s
  | .ret a, r => ⟨rfl, r⟩
  | .ask i j k, r => hc i j _ r.1 r.2.1 (run_wp hc r.2.2)
section
variable {prog : Program} {w : World} {A : Around} {E : Value → Shared → Prop} {s : Shared}
theorem list_sort_rows {a : Addr} {vs : List Value} {n : Nat} {P : PySem.Fin → Shared → Prop} {f : Nat → Nat → Bool} (O : Ord f) (ho : s.heap.get? a = some (seqObj "list" vs.toArray n)) (h64 : vs.length < 64)
    (hT : ∀ h' : Heap, (∀ b o, b ≠ a → s.heap.get? b = some o → h'.get? b = some o) → ∀ v ∈ vs, Looks (model prog w) h' (typeOf v) (.type "list"))
    (hlt : ∀ s' : Shared, (∀ b o, b ≠ a → s.heap.get? b = some o → s'.heap.get? b = some o) → ∀ i j C, i < vs.length → j < vs.length → C (f i j) s' → kas_ask prog w A oneType' vs i j C s')
    (h : ∀ p : Array Nat, Gp vs.length p → Up f p vs.length → P (.done (.ret .none)) { s with heap := sortedHeap s.heap a vs (List.toArray (p.toList.map fun i => vs.getD i Value.none)) }) :
    wpAny (model prog w) A (Builtin.«list.sort» ⟨[.ref a], []⟩) P E s := by
  have ha : a < s.heap.objs.size := Heap.lt_size ho
  have s1 := Heap.SameBut.update s.heap a (Obj.mapSeq fun _ => (#[] : Array Value))
  obtain ⟨e1, ho1⟩ : ∃ e1, (s.heap.update a (Obj.mapSeq fun _ => (#[] : Array Value))).get? a = some (seqObj "list" #[] e1) := ⟨_, get?_update_seq ho fun _ => #[]⟩
  have old : ∀ b o, b ≠ a → s.heap.get? b = some o → (((s.heap.update a (Obj.mapSeq fun _ => (#[] : Array Value))).push (seqObj "tuple" vs.toArray 0)).push (seqObj "list" #[] 0)).get? b = some o := fun b o hb e =>
    Heap.get?_push_of_some _ (Heap.get?_push_of_some _ ((s1.2 b hb).trans e))
  have ho6 : (((s.heap.update a (Obj.mapSeq fun _ => (#[] : Array Value))).push (seqObj "tuple" vs.toArray 0)).push (seqObj "list" #[] 0)).get? a = some (seqObj "list" #[] e1) := Heap.get?_push_of_some _ (Heap.get?_push_of_some _ ho1)
  rw [list_sort_plain]
  refine wpAny_bind (listItems_at ho rfl ?_)
  refine wpAny_bind (listUpdate_at ho rfl ?_ (by rw [List.size_toArray, sizeLine_eq]; omega) (Nat.zero_le _))
  refine wpAny_bind (seqEpoch_at ho1 rfl ?_)
  refine wpAny_bind (wpAny_newTuple ?_ (by show vs.length ≤ _; rw [sizeLine_eq]; omega))
  refine wpAny_bind (wpAny_newList ?_ (Nat.zero_le _))
  refine wpAny_holding ?_
  show wpAny (model prog w) A _ P E { s with heap := ((s.heap.update a (Obj.mapSeq fun _ => (#[] : Array Value))).push (seqObj "tuple" vs.toArray 0)).push (seqObj "list" #[] 0) }
  dsimp only
  by_cases h2 : vs.length < 2
  · have hn2 : vs.toArray.size < 2 := by rw [List.size_toArray]; exact h2
    rw [if_pos hn2, if_pos hn2]
    refine wpAny_bind (wpAny_pure ?_)
    rw [StateT.run_pure]
    refine wpAny_bind (wpAny_pure ?_)
    dsimp only
    have hz : (vs.toArray.zip vs.toArray).map (·.2) = vs.toArray := by
      apply Array.toList_inj.mp
      rw [Array.toList_map, Array.toList_zip]
      exact List.map_snd_zip (Nat.le_refl _)
    refine wpAny_bind (seqEpoch_at ho6 rfl ?_)
    refine wpAny_bind (listUpdate_at ho6 rfl ?_ (Nat.zero_le _) (by show ((vs.toArray.zip vs.toArray).map (·.2)).size ≤ _; rw [hz, List.size_toArray, sizeLine_eq]; omega))
    simp only [bne_self_eq_false, Bool.false_eq_true, if_false]
    refine wpAny_pure ?_
    have key := h (List.toArray (List.range vs.length)) ⟨by simp, by simp⟩ (fun i j hij hj => by
      have : i = j := by omega
      subst this; exact O.refl _)
    have e : (List.toArray (List.range vs.length)).toList.map (fun i => vs.getD i Value.none) = vs := by
      apply List.ext_getElem (by simp)
      intro i h1 h2
      simp [h2]
    rw [e] at key
    show P _ { s with heap := (((s.heap.update a (Obj.mapSeq fun _ => (#[] : Array Value))).push (seqObj "tuple" vs.toArray 0)).push (seqObj "list" #[] 0)).update a (Obj.mapSeq fun _ => (vs.toArray.zip vs.toArray).map (·.2)) }
    rw [hz]
    exact key
  · have hn2 : ¬ vs.toArray.size < 2 := by rw [List.size_toArray]; exact h2
    rw [if_neg hn2, if_neg hn2]
    refine wpAny_bind (kas_kind (by omega) (hT _ old) (by decide) (by decide) ?_)
    have est : SortSt.mk' oneType' (vs.toArray.zip vs.toArray) #[] 7 none = kas_st oneType' (pairsOf vs) (List.toArray (List.range vs.length)) := by
      have e := kas_range (pairsOf vs)
      rw [pairsOf_size] at e
      show SortSt.mk' oneType' (pairsOf vs) #[] 7 none = SortSt.mk' oneType' ((List.toArray (List.range vs.length)).map (kas_item (pairsOf vs))) #[] 7 none
      rw [e]
    have ask := run_wp (hlt { s with heap := (((s.heap.update a (Obj.mapSeq fun _ => (#[] : Array Value))).push (seqObj "tuple" vs.toArray 0)).push (seqObj "list" #[] 0)) } old) (run_sort O (N := vs.length) (by omega))
    rw [kas_ask_eq] at ask
    have run := kas_runs (E := E) (Q := fun _ st' s' => ∃ p : Array Nat, arrOf st' = p.map (kas_item (pairsOf vs)) ∧ failedOf st' = none ∧ s' = { s with heap := (((s.heap.update a (Obj.mapSeq fun _ => (#[] : Array Value))).push (seqObj "tuple" vs.toArray 0)).push (seqObj "list" #[] 0)) } ∧ Gp vs.length p ∧ Up f p vs.length)
      (by omega) h64 (fun p' st' s' a1 a2 a3 a4 => ⟨p', a2, a3, a4.1, a4.2.1, a4.2.2⟩) ask
    rw [← est] at run
    refine wpAny_bind (wpAny_mono run ?_ fun _ _ e => e)
    rintro ⟨⟨⟩, st'⟩ s' ⟨p, har, hf, rfl, hG, hU⟩
    dsimp only
    have hout : (arrOf st').map (·.2) = List.toArray (p.toList.map fun i => vs.getD i Value.none) := by
      apply Array.toList_inj.mp
      rw [har, Array.map_map, Array.toList_map]
      exact List.map_congr_left fun i _ => by show (kas_item (pairsOf vs) i).2 = _; rw [kas_item_eq]
    rw [hout]
    refine wpAny_bind (seqEpoch_at ho6 rfl ?_)
    refine wpAny_bind (listUpdate_at ho6 rfl ?_ (Nat.zero_le _) (by rw [List.size_toArray, List.length_map, Array.length_toList, hG.size, sizeLine_eq]; omega))
    rw [hf]
    simp only [bne_self_eq_false, Bool.false_eq_true, if_false]
    exact wpAny_pure (h p hG hU)

theorem sorted_rows {l : Addr} {vs : List Value} {Q : Value → Shared → Prop} {f : Nat → Nat → Bool} (O : Ord f) (hl : s.heap.IsList l vs.toArray) (h64 : vs.length < 64)
    (hT : ∀ h' : Heap, (∀ b o, s.heap.get? b = some o → h'.get? b = some o) → ∀ v ∈ vs, Looks (model prog w) h' (typeOf v) (.type "list"))
    (hlt : ∀ s' : Shared, (∀ b o, s.heap.get? b = some o → s'.heap.get? b = some o) → ∀ i j C, i < vs.length → j < vs.length → C (f i j) s' → kas_ask prog w A.in1.in1 oneType' vs i j C s')
    (h : ∀ p : Array Nat, Gp vs.length p → Up f p vs.length → Q (.ref (s.heap.objs.size + 1)) { s with heap := sortedAll s.heap vs (List.toArray (p.toList.map fun i => vs.getD i Value.none)) }) :
    wpAny (model prog w) A (call (.builtin "sorted") [.ref l]) Q E s := by
  refine Calls.call_function_entry kind_sorted plain_sorted entry_sorted (args_sorted1 _) ?_
  unfold Builtin.«sorted»
  refine wpAny_bind (m := checkCount "sorted" 1 1 _) (wpAny_pure ?_)
  refine wpAny_bind (collect_list hl ?_ (by rw [sizeLine_eq]; omega))
  refine wpAny_bind (wpAny_newList ?_ (by show vs.length ≤ _; rw [sizeLine_eq]; omega))
  have hsz : ((s.heap.push (seqObj "list" #[] 0)).update s.heap.objs.size (Obj.mapSeq (· ++ vs.toArray))).objs.size = s.heap.objs.size + 1 := by
    rw [Heap.size_update, size_push']
  have hoL : (((s.heap.push (seqObj "list" #[] 0)).update s.heap.objs.size (Obj.mapSeq (· ++ vs.toArray))).push (seqObj "list" vs.toArray 0)).get? (s.heap.objs.size + 1) = some (seqObj "list" vs.toArray 0) := by
    rw [← hsz]; exact Heap.get?_push_size _ rfl
  have keep : ∀ b o, s.heap.get? b = some o → b ≠ s.heap.objs.size + 1 ∧ (((s.heap.push (seqObj "list" #[] 0)).update s.heap.objs.size (Obj.mapSeq (· ++ vs.toArray))).push (seqObj "list" vs.toArray 0)).get? b = some o := fun b o q => by
    have hlt : b < s.heap.objs.size := Heap.lt_size q
    refine ⟨Nat.ne_of_lt (Nat.lt_succ_of_lt hlt), ?_⟩
    rw [Heap.get?_push_ne _ _ _ (by rw [hsz]; exact Nat.ne_of_lt (Nat.lt_succ_of_lt hlt)), Heap.get?_update_ne _ _ _ _ (Nat.ne_of_lt hlt), Heap.get?_push_ne _ _ _ (Nat.ne_of_lt hlt)]
    exact q
  show wpAny _ _ _ _ _ { s with heap := ((s.heap.push (seqObj "list" #[] 0)).update s.heap.objs.size (Obj.mapSeq (· ++ vs.toArray))).push (seqObj "list" vs.toArray 0) }
  rw [hsz]
  refine wpAny_bind (wpAny_holding (wpAny_call_entry slot_list_sort ⟨_, hoL, rfl⟩ entry_list_sort (list_sort_rows (s := { s with heap := ((s.heap.push (seqObj "list" #[] 0)).update s.heap.objs.size (Obj.mapSeq (· ++ vs.toArray))).push (seqObj "list" vs.toArray 0) }) O hoL h64
    (fun h' hk => hT h' fun b o e => hk b o (keep b o e).1 (keep b o e).2) (fun s' hk => hlt s' fun b o e => hk b o (keep b o e).1 (keep b o e).2) fun p hG hU => ⟨_, rfl, ?_⟩) (args_list_sort _)))
  exact wpAny_pure ⟨_, rfl, h p hG hU⟩
end
end Mine
open PySem PySem.W PyProof.Rows PySem.MeetsSeq PySem.SeqRoads2
set_option Elab.async false
set_option autoImplicit false
set_option linter.unusedVariables false
namespace Mine
open PySem.AutoSeq1 PySem.MeetsSeq3 PySem.MeetsSeq
set_option maxHeartbeats 2000000 in
theorem list_lt (l b : Addr) (items items2 : Array Value) (n n2 : Nat) (xs ys : List Nat) (h1 : items.size = xs.length) (h2 : items2.size = ys.length) (hxy : xs.length = ys.length)
    (g1 : ∀ j (h : j < items.size), ∃ t, items[j] = .int (xs[j]'(h1 ▸ h) : Nat) t) (g2 : ∀ j (h : j < items2.size), ∃ t, items2[j] = .int (ys[j]'(h2 ▸ h) : Nat) t) :
    Meets (Builtin.«list.__lt__» ⟨[.ref l, .ref b], []⟩)
      (fun _ R s => s.heap.get? l = some { cls := .type "list", dict := none, data := .seq items n, slots := #[] } ∧ s.heap.get? b = some { cls := .type "list", dict := none, data := .seq items2 n2, slots := #[] } ∧
        R (.ok (.ret (.bool (lexLt xs ys)))) s) := by
  intro prog w A R s h
  obtain ⟨hp, g, d, tk, os⟩ := s; obtain ⟨hl, hb, h⟩ := h
  have f3 := AutoSeq1.sub_list_list
  wp_walk using wpAny_loadPart' hl, wpAny_loadPart' hb
  exact ⟨plainId_quiet plain_eq_loop _, codeAny_builtin entry_eq_loop (by
    rw [Around.under_plainId plain_eq_loop _]
    exact lt_loop l b items items2 n n2 xs ys h1 h2 hxy g1 g2 _ 0 rfl prog w A R _ ⟨hl, hb, h⟩)⟩
theorem row_items {N : List Addr} {h : Heap} {v : Value} {xs : List Nat} (hv : (lV zV xs).holds (vw N h) v) :
    ∃ a us n, v = .ref a ∧ h.get? a = some { cls := .type "list", dict := none, data := .seq (List.toArray us) n, slots := #[] } ∧ ∃ e : (List.toArray us).size = xs.length, ∀ j (hj : j < (List.toArray us).size), ∃ t, (List.toArray us)[j] = .int (xs[j]'(e ▸ hj) : Nat) t := by
  obtain ⟨a, vs, k, rfl, ha, ho, hp⟩ := lv_plain hv
  have e : (List.toArray vs).size = xs.length := by rw [List.size_toArray]; exact Paired.length hp
  refine ⟨a, vs, k, rfl, ho, e, fun j hj => ?_⟩
  obtain ⟨x, hx, t, ht⟩ := Paired.get hp j (xs[j]'(e ▸ hj)) (by simp)
  have hj' : j < vs.length := by simpa using hj
  refine ⟨t, ?_⟩
  have : vs[j]? = some (vs[j]) := by simp [hj']
  rw [this] at hx
  cases hx
  simpa using ht
theorem lt_rows {prog : Program} {w : World} {A : Around} {s : Shared} {E : Value → Shared → Prop} {N N' : List Addr} {v v' : Value} {xs ys : List Nat} {C : Bool → Shared → Prop} (hu : A.units < cLine) (hxy : xs.length = ys.length)
    (hv : (lV zV xs).holds (vw N s.heap) v) (hv' : (lV zV ys).holds (vw N' s.heap) v') (h : C (lexLt xs ys) s) : wpAny (model prog w) A (keyLt' oneType' v v') C E s := by
  obtain ⟨a, us, n, rfl, ho, e1, g1⟩ := row_items hv
  obtain ⟨b, us', n', rfl, ho', e2, g2⟩ := row_items hv'
  rw [keyLt'_oneType, oneLt'_eq]
  simp only [if_true]
  refine wpAny_bind (wpAny_cRoomFor hu ?_)
  have hT : s.TypeIs (.ref a) "list" := ⟨_, ho, rfl⟩
  have sl : Slot "list" "__lt__" "list.__lt__" := F.slot_list_lt
  refine wpAny_bind (wpAny_callSpecialIfBound?_slot hT sl (call_meets sl hT F.entry_list_lt (F.args_list_lt_2 _ _) (list_lt a b _ _ n n' xs ys e1 e2 hxy g1 g2) ⟨ho, ho', ?_⟩))
  exact wpAny_truthy_bool h

/-! rows in order -/
theorem lex_refl : ∀ x : List Nat, lexLt x x = false
  | [] => by simp [lexLt]
  | a :: x => by rw [lexLt_cons, if_pos rfl]; exact lex_refl x
theorem lex_as : ∀ x y : List Nat, lexLt x y = true → lexLt y x = false
  | [], _, h => by simp [lexLt] at h
  | _ :: _, [], h => by simp [lexLt] at h
  | a :: x, b :: y, h => by
    rw [lexLt_cons] at h ⊢
    by_cases e : a = b
    · rw [if_pos e] at h; rw [if_pos e.symm]; exact lex_as x y h
    · rw [if_neg e] at h; rw [if_neg (Ne.symm e)]
      have := of_decide_eq_true h
      exact decide_eq_false (by omega)
theorem lex_tr : ∀ x y z : List Nat, x.length = y.length → y.length = z.length → lexLt y x = false → lexLt z y = false → lexLt z x = false
  | [], [], [], _, _, _, _ => by simp [lexLt]
  | a :: x, b :: y, c :: z, h1, h2, h3, h4 => by
    rw [lexLt_cons] at h3 h4 ⊢
    simp only [List.length_cons] at h1 h2
    by_cases e1 : b = a
    · rw [if_pos e1] at h3
      by_cases e2 : c = b
      · rw [if_pos e2] at h4; rw [if_pos (e2.trans e1)]
        exact lex_tr x y z (by omega) (by omega) h3 h4
      · rw [if_neg e2] at h4; rw [if_neg (by omega)]; rw [← e1]; exact h4
    · rw [if_neg e1] at h3
      have l1 := of_decide_eq_false h3
      by_cases e2 : c = b
      · rw [if_neg (by omega)]; exact decide_eq_false (by omega)
      · rw [if_neg e2] at h4
        have l2 := of_decide_eq_false h4
        rw [if_neg (by omega)]; exact decide_eq_false (by omega)
theorem lex_anti : ∀ x y : List Nat, x.length = y.length → lexLt x y = false → lexLt y x = false → x = y
  | [], [], _, _, _ => rfl
  | a :: x, b :: y, h, h1, h2 => by
    rw [lexLt_cons] at h1 h2
    simp only [List.length_cons] at h
    by_cases e : a = b
    · subst e
      rw [if_pos rfl] at h1 h2
      rw [lex_anti x y (by omega) h1 h2]
    · rw [if_neg e] at h1; rw [if_neg (Ne.symm e)] at h2
      have l1 := of_decide_eq_false h1
      have l2 := of_decide_eq_false h2
      omega
/-- in order -/
def Rises (l : List (List Nat)) : Prop := l.Pairwise fun a b => lexLt b a = false
theorem rises_unique {m : Nat} : ∀ {l r : List (List Nat)}, (∀ x ∈ l, x.length = m) → l.Perm r → Rises l → Rises r → l = r
  | [], r, _, hp, _, _ => (List.nil_perm.mp hp).symm ▸ rfl
  | a :: l, [], _, hp, _, _ => absurd hp.length_eq (by simp)
  | a :: l, b :: r, hm, hp, hl, hr => by
    obtain ⟨h1, h2⟩ := List.pairwise_cons.mp hl
    obtain ⟨h3, h4⟩ := List.pairwise_cons.mp hr
    have hbm : b ∈ a :: l := hp.mem_iff.mpr List.mem_cons_self
    have hab : lexLt b a = false := by
      rcases List.mem_cons.mp hbm with e | h
      · rw [e]; exact lex_refl a
      · exact h1 b h
    have hba : lexLt a b = false := by
      rcases List.mem_cons.mp (hp.mem_iff.mp (List.mem_cons_self (a := a) (l := l))) with e | h
      · rw [e]; exact lex_refl b
      · exact h3 a h
    obtain rfl : a = b := lex_anti a b ((hm a List.mem_cons_self).trans (hm b hbm).symm) hba hab
    rw [rises_unique (fun x hx => hm x (List.mem_cons_of_mem _ hx)) (List.Perm.cons_inv hp) h2 h4]
def insR (a : List Nat) : List (List Nat) → List (List Nat)
  | [] => [a]
  | b :: l => if lexLt b a = true then b :: insR a l else a :: b :: l
def sortR : List (List Nat) → List (List Nat)
  | [] => []
  | a :: l => insR a (sortR l)
theorem insR_perm (a : List Nat) : ∀ l, (insR a l).Perm (a :: l)
  | [] => .refl _
  | b :: l => by
    unfold insR
    split
    · exact ((insR_perm a l).cons b).trans (List.Perm.swap a b l)
    · exact .refl _
theorem sortR_perm : ∀ l, (sortR l).Perm l
  | [] => .refl _
  | a :: l => (insR_perm a (sortR l)).trans ((sortR_perm l).cons a)
theorem insR_rises {m : Nat} (a : List Nat) (ha : a.length = m) : ∀ l : List (List Nat), (∀ x ∈ l, x.length = m) → Rises l → Rises (insR a l)
  | [], _, _ => List.pairwise_singleton ..
  | b :: l, hm, h => by
    obtain ⟨h1, h2⟩ := List.pairwise_cons.mp h
    unfold insR
    have hb := hm b List.mem_cons_self
    split
    · rename_i hab
      refine List.pairwise_cons.mpr ⟨fun c hc => ?_, insR_rises a ha l (fun x hx => hm x (List.mem_cons_of_mem _ hx)) h2⟩
      rcases List.mem_cons.mp ((insR_perm a l).mem_iff.mp hc) with rfl | hc
      · exact lex_as _ _ hab
      · exact h1 c hc
    · rename_i hab
      have hab : lexLt b a = false := by simpa using hab
      refine List.pairwise_cons.mpr ⟨fun c hc => ?_, h⟩
      rcases List.mem_cons.mp hc with rfl | hc
      · exact hab
      · exact lex_tr a b c (by omega) (by rw [hm c (List.mem_cons_of_mem _ hc)]; exact hb) hab (h1 c hc)
theorem sortR_rises {m : Nat} : ∀ l : List (List Nat), (∀ x ∈ l, x.length = m) → Rises (sortR l)
  | [], _ => List.Pairwise.nil
  | a :: l, hm => insR_rises a (hm a List.mem_cons_self) _ (fun x hx => hm x (List.mem_cons_of_mem _ ((sortR_perm l).mem_iff.mp hx))) (sortR_rises l fun x hx => hm x (List.mem_cons_of_mem _ hx))
theorem sortR_eq {m : Nat} {l r : List (List Nat)} (hm : ∀ x ∈ l, x.length = m) (h : l.Perm r) : sortR l = sortR r :=
  rises_unique (fun x hx => hm x ((sortR_perm l).mem_iff.mp hx)) ((sortR_perm l).trans (h.trans (sortR_perm r).symm)) (sortR_rises l hm) (sortR_rises r fun x hx => hm x (h.mem_iff.mpr hx))

theorem map_getD_range {α : Type} (l : List α) (d : α) : (List.range l.length).map (fun i => l.getD i d) = l := by
  apply List.ext_getElem (by simp)
  intro i h1 h2
  simp [h2]
theorem up_pairwise {f : Nat → Nat → Bool} {p : Array Nat} (hU : Up f p p.size) : p.toList.Pairwise fun a b => f b a = false := by
  rw [List.pairwise_iff_getElem]
  intro i j hi hj hij
  have := hU i j (by omega) (by simpa using hj)
  have h1 : i < p.size := by simpa using hi
  have h2 : j < p.size := by simpa using hj
  have e1 : p.getD i 0 = p[i] := by simp [Array.getD, h1]
  have e2 : p.getD j 0 = p[j] := by simp [Array.getD, h2]
  rw [e1, e2] at this
  exact this
theorem paired_pick {F : Value → List Nat → Prop} {vs : List Value} {xs : List (List Nat)} {d : List Nat} (h : Paired F vs xs) : ∀ is : List Nat, (∀ i ∈ is, i < xs.length) → Paired F (is.map fun i => vs.getD i Value.none) (is.map fun i => xs.getD i d)
  | [], _ => .nil
  | i :: is, hi => by
    have h1 := hi i List.mem_cons_self
    have h2 : i < vs.length := by rw [Paired.length h]; exact h1
    obtain ⟨v, hv, hF⟩ := Paired.get h i xs[i] (by simp [h1])
    refine .cons ?_ (paired_pick h is fun j hj => hi j (List.mem_cons_of_mem _ hj))
    have e1 : vs.getD i Value.none = v := by simp [List.getD, hv]
    have e2 : xs.getD i d = xs[i] := by simp [List.getD, h1]
    show F (vs.getD i Value.none) (xs.getD i d)
    rw [e1, e2]; exact hF
theorem paired_mem {F : Value → List Nat → Prop} {vs : List Value} {xs : List (List Nat)} (h : Paired F vs xs) : ∀ v ∈ vs, ∃ x, F v x := by
  induction h with
  | nil => intro v hv; cases hv
  | cons a _ ih =>
    intro v hv
    rcases List.mem_cons.mp hv with rfl | hv
    · exact ⟨_, a⟩
    · exact ih v hv
section
variable {X : Cx} {n : Nat}
theorem fn_sortedR {m : Nat} {xs : List (List Nat)} (hm : ∀ x ∈ xs, x.length = m) (h64 : xs.length < 64) : Fn X n (.builtin "sorted") [lV (lV zV) xs] (lV (lV zV) (sortR xs)) := by
  refine ⟨?_⟩
  intro A N s vs E B hp
  cases hp with
  | cons h h' =>
    cases h'
    obtain ⟨a, us, rfl, ha, hl, hq⟩ := lv_list h
    have hlen : us.length = xs.length := Paired.length hq
    have hd : ∀ i, (xs.getD i (List.replicate m 0)).length = m := fun i => by
      by_cases h : i < xs.length
      · have e : xs.getD i (List.replicate m 0) = xs[i] := by simp [List.getD, h]
        rw [e]; exact hm _ (List.getElem_mem h)
      · have e : xs.getD i (List.replicate m 0) = List.replicate m 0 := by simp [List.getD, Nat.le_of_not_lt h]
        rw [e]; simp
    have O : Ord fun i j => lexLt (xs.getD i (List.replicate m 0)) (xs.getD j (List.replicate m 0)) :=
      ⟨fun i => lex_refl _, fun i j k h1 h2 => lex_tr _ _ _ (by rw [hd, hd]) (by rw [hd, hd]) h1 h2, fun i j h => lex_as _ _ h⟩
    have hrow : ∀ h' : Heap, (∀ b o, s.heap.get? b = some o → h'.get? b = some o) → ∀ v ∈ us, ∃ x : List Nat, (lV zV x).holds (vw N h') v := fun h' hk v hv => by
      obtain ⟨x, hx⟩ := paired_mem hq v hv
      exact ⟨x, (lV zV x).mono _ _ _ (vw_le hk) hx⟩
    refine res_of (sorted_rows O hl (by omega) (fun h' hk v hv => ?_) (fun s' hk i j C hi hj hC => ?_) fun p hG hU => ?_)
    · obtain ⟨x, hx⟩ := hrow h' hk v hv
      obtain ⟨b, vs', rfl, _, hl', _⟩ := lv_list hx
      intro A' Q' E' s' hk' hQ
      exact wpAny_typeOf (Heap.IsList.typeIs (s := s') (hl'.at fun o e => hk' _ o e)) hQ
    · have pick : ∀ i, i < us.length → ∃ x, (lV zV x).holds (vw N s'.heap) (us.getD i Value.none) ∧ x = xs.getD i (List.replicate m 0) := fun i hi => by
        have h1 : i < xs.length := by omega
        obtain ⟨v, hv, hF⟩ := Paired.get hq i xs[i] (by simp [h1])
        have e1 : us.getD i Value.none = v := by simp [List.getD, hv]
        have e2 : xs.getD i (List.replicate m 0) = xs[i] := by simp [List.getD, h1]
        rw [e1]
        exact ⟨_, (lV zV xs[i]).mono _ _ _ (vw_le hk) hF, e2.symm⟩
      obtain ⟨x, hx, ex⟩ := pick i hi
      obtain ⟨y, hy, ey⟩ := pick j hj
      have hu : A.in1.in1.units < cLine := by
        show A.units + 1 + 1 < cLine
        have := B.lev.units; unfold cLine; omega
      refine lt_rows hu (by rw [ex, ey, hd, hd]) hx hy ?_
      rw [ex, ey]; exact hC
    · obtain ⟨e, he⟩ := sortedAll_at s.heap us (List.toArray (p.toList.map fun i => us.getD i Value.none))
      have hlt : ∀ i ∈ p.toList, i < xs.length := fun i hi => by
        have := hG.perm.mem_iff.mp hi
        rw [← hlen]; simpa using this
      have hP := paired_pick (d := List.replicate m 0) hq p.toList hlt
      have hperm : (p.toList.map fun i => xs.getD i (List.replicate m 0)).Perm xs := by
        have h1 := hG.perm.map fun i => xs.getD i (List.replicate m 0)
        rw [hlen, map_getD_range] at h1
        exact h1
      have hr : Rises (p.toList.map fun i => xs.getD i (List.replicate m 0)) := by
        unfold Rises
        rw [List.pairwise_map]
        have hU' : Up (fun i j => lexLt (xs.getD i (List.replicate m 0)) (xs.getD j (List.replicate m 0))) p p.size := by rw [hG.size]; exact hU
        exact up_pairwise hU'
      have hs : (p.toList.map fun i => xs.getD i (List.replicate m 0)) = sortR xs := rises_unique (fun x hx => hm x (hperm.mem_iff.mp hx)) (hperm.trans (sortR_perm xs).symm) hr (sortR_rises xs hm)
      rw [hs] at hP
      have hk : ∀ b o, s.heap.get? b = some o → (sortedAll s.heap us (List.toArray (p.toList.map fun i => us.getD i Value.none))).get? b = some o := fun b o e => sortedAll_old e
      exact ⟨⟨_, _, e, rfl, vw_some.mpr ⟨B.fresh (Nat.le_succ _), he⟩, Paired.imp (fun v x hx => (lV zV x).mono _ _ _ (vw_le hk) hx) hP⟩, _, s.toks, rfl, hk⟩
end
end Mine
open PySem PySem.W PyProof.Rows PySem.MeetsSeq PySem.SeqRoads2
set_option Elab.async false
set_option autoImplicit false
set_option linter.unusedVariables false
namespace Mine
section
variable {X : Cx} {n : Nat} {sc : Scope} {ρ : Rho}
theorem tv_push {α : Type} {K : α → Val} {l : List α} {A : Around} {N : List Addr} {s : Shared} {vs : List Value} (B : Base X n A N s) (hp : Paired (fun v x => (K x).holds (vw N s.heap) v) vs l) :
    Res N s (tV K l) (.ref s.heap.objs.size) { s with heap := s.heap.push { cls := .type "tuple", data := .seq vs.toArray } } :=
  ⟨⟨_, vs, 0, rfl, vw_some.mpr ⟨B.fresh (Nat.le_refl _), Heap.get?_push_size _ rfl⟩, paired_mono (vw_le fun _ _ e => Heap.get?_push_of_some _ e) hp⟩, keeps_push⟩
theorem Ev.tuple {α : Type} {K : α → Val} {es : List Expr} {l : List α} {k : Nat} {pos : Pos} (h : EvAll X n sc ρ K es l) (hlen : l.length ≤ 1000) : Ev X n sc ρ (.Tuple es k pos) (tV K l) := .mk fun A env N s E P => by
  refine wpAny_Tuple (wpAny_mono (spliced_all h P) (fun vs s₁ hv => ?_) fun _ _ e => e)
  refine ⟨by rw [Paired.length hv.1, sizeLine_eq]; omega, ?_⟩
  have := tv_push (P.base.keeps hv.2) hv.1
  exact ⟨this.1, keeps_trans hv.2 this.2⟩
end
section
variable {X : Cx} {n : Nat} {sc : Scope} {own : List Str} {F : Frm X n sc own} {Nv Nw : List Addr} {ω : List (Addr × OwnP)} {ρ : Rho} {sr s s' : Shared}
/-- x, y = (e₁, e₂), both names the frame's plain ones: the second is stored first -/
theorem go_assign2 {x y : Str} {px py tp vp pos : Pos} {k k' : Nat} {e₁ e₂ : Expr} {V₁ V₂ : Val} {rest : List Stmt} {Q : Flow → Shared → Prop} {E : Value → Shared → Prop} (S : FS F Nv ω ρ sr Nw s) (h₁ : Ev X n sc ρ e₁ V₁) (h₂ : Ev X n sc ρ e₂ V₂) (s₁ : isStar e₁ = false) (s₂ : isStar e₂ = false)
    (hx : own.contains x = true) (hx0 : (x == (".0" : Str)) = false) (hy : own.contains y = true) (hy0 : (y == (".0" : Str)) = false)
    (kk : ∀ s', FS F Nv ω (upd (upd ρ y V₂) x V₁) sr Nw s' → Go F rest Q E s')
    (hw : ∀ env : Env, env.scope = sc → swappedStores [.Tuple [.Name x px, .Name y py] k tp] (.Tuple [e₁, e₂] k' vp) env = pure (some [x, y])) :
    Go F (.Assign [.Tuple [.Name x px, .Name y py] k tp] (.Tuple [e₁, e₂] k' vp) pos :: rest) Q E s := by
  refine ⟨wpAny_execs_cons (Assign_Tuple_swapped (names := [x, y]) (wpAny_Tuple (wpAny_mono (spliced_all (K := fun V : Val => V) (l := [V₁, V₂]) (.cons ⟨s₁, h₁⟩ (.cons ⟨s₂, h₂⟩ .nil)) S.cst.pre) (fun vs t₁ hv => ?_) fun _ _ e => e)) rfl (hw _ S.cst.is.eq))⟩
  obtain ⟨hp, kp⟩ := hv
  cases hp with
  | cons g₁ hp =>
    rename_i v₁ _
    cases hp with
    | cons g₂ hp =>
      rename_i v₂ _
      cases hp
      refine ⟨by show 2 ≤ _; rw [sizeLine_eq]; decide, ?_⟩
      have S₁ := S.keeps kp
      have kp2 : Kp t₁ { t₁ with heap := t₁.heap.push { cls := .type "tuple", data := .seq #[v₁, v₂] } } := keeps_push
      have S₂ := S₁.keeps kp2
      have ht : IsTup (t₁.heap.push { cls := .type "tuple", data := .seq #[v₁, v₂] }) t₁.heap.objs.size #[v₁, v₂] := ⟨_, Heap.get?_push_size _ rfl, rfl, 0, rfl⟩
      have hu := wpAny_size (unpackItems_tuple (prog := X.prog) (w := X.w) (A := F.A) (E := E) (s := { t₁ with heap := t₁.heap.push { cls := .type "tuple", data := .seq #[v₁, v₂] } }) (Q := fun vs s' => vs = [v₁, v₂] ∧ (∃ h', s' = { { t₁ with heap := t₁.heap.push { cls := .type "tuple", data := .seq #[v₁, v₂] } } with heap := h' } ∧ ∀ b o, (t₁.heap.push { cls := .type "tuple", data := .seq #[v₁, v₂] }).get? b = some o → h'.get? b = some o)) S₂.cst.base₀.lev.handled ht
        fun h' he => ⟨rfl, h', rfl, fun b o e => he b o (Nat.ne_of_lt (Heap.lt_size e)) e⟩)
      refine wpAny_mono hu (fun items t₃ ht₃ => ?_) fun _ _ e => e
      obtain ⟨hsz, rfl, h', e', hk'⟩ := ht₃
      have kp3 : Kp { t₁ with heap := t₁.heap.push { cls := .type "tuple", data := .seq #[v₁, v₂] } } t₃ := ⟨⟨h', _, e', hk'⟩, hsz⟩
      have S₃ := S₂.keeps kp3
      have w₁ := V₁.mono _ _ _ (keeps_vw (N := Nv) (keeps_trans kp2 kp3)) g₁
      have w₂ := V₂.mono _ _ _ (keeps_vw (N := Nv) (keeps_trans kp2 kp3)) g₂
      refine assignInOrder_cons (bindName_ (wpAny_mono (S₃.store (mem_of hy) hy0 w₂) (fun _ t₄ h₄ => ?_) fun _ _ e => e))
      refine assignInOrder_cons (bindName_ (wpAny_mono (h₄.1.store (V := V₁) (mem_of hx) hx0 ?_) (fun _ t₅ h₅ => ?_) fun _ _ e => e))
      · refine V₁.mono _ _ _ (vw_but h₄.2 fun b o h _ e => ?_) w₁
        exact isOwn_data S₃.cst h e
      · exact assignInOrder_nil (kk t₅ h₅.1).go
end
end Mine
open PySem PySem.W PyProof.Rows PySem.MeetsSeq PySem.SeqRoads2
set_option Elab.async false
set_option autoImplicit false
set_option linter.unusedVariables false
namespace Mine
section
variable {X : Cx} {n : Nat} {sc : Scope} {ρ : Rho}
theorem Ev.sortedR {e : Expr} {p pos : Pos} {l : List (List Nat)} {m : Nat} (h : Ev X n sc ρ e (lV (lV zV) l)) (hm : ∀ x ∈ l, x.length = m) (hl : l.length < 64) (hs : isStar e = false) (hk : sc.names.lookup (Str.ofString "sorted") = some .globalImplicit) : Ev X n sc ρ (.Call (.Name "sorted" p) [e] [] pos) (lV (lV zV) (sortR l)) :=
  Ev.callB (.cons ⟨hs, h⟩ .nil) (fn_sortedR hm hl) (by decide +kernel) boot_sorted' hk
theorem natI_contains (k : Nat) : ∀ l : List Nat, (natI l).contains (k : Int) = l.contains k
  | [] => rfl
  | a :: l => by
    show List.contains ((a : Int) :: natI l) (k : Int) = _
    rw [List.contains_cons, List.contains_cons, natI_contains k l]
    congr 1
    by_cases h : k = a
    · simp [h]
    · have : ¬ ((k : Int) = (a : Int)) := by omega
      rw [beq_eq_false_iff_ne.mpr h, beq_eq_false_iff_ne.mpr this]
theorem cmp_inN {k : Nat} {l : List Nat} : Op2 X n (compareOp .In) (zV k) (lV zV l) (bV (l.contains k)) := fun A N s a b E B ha hb => by
  have h := cmp_in_i (X := X) (n := n) (k := (k : Int)) (l := natI l) A N s a b E B ha (lv_natI _ _ hb)
  rw [natI_contains] at h
  exact h
end
section
variable {X : Cx} {n : Nat} {sc : Scope} {own : List Str} {F : Frm X n sc own} {Nv Nw : List Addr} {ω : List (Addr × OwnP)} {ρ : Rho} {sr s s' : Shared}
/-- if whose two ways meet in ρ' -/
theorem go_ifJ (ρ' : Rho) {t : Expr} {body orelse rest : List Stmt} {pos : Pos} {b : Bool} {Q : Flow → Shared → Prop} {E : Value → Shared → Prop} (S : FS F Nv ω ρ sr Nw s) (ht : EvT X n sc ρ t b)
    (h₁ : b = true → ∀ s' Q', FS F Nv ω ρ sr Nw s' → (∀ s'', FS F Nv ω ρ' sr Nw s'' → Q' .next s'') → Go F body Q' E s')
    (h₂ : b = false → ∀ s' Q', FS F Nv ω ρ sr Nw s' → (∀ s'', FS F Nv ω ρ' sr Nw s'' → Q' .next s'') → Go F orelse Q' E s')
    (k : ∀ s', FS F Nv ω ρ' sr Nw s' → Go F rest Q E s') : Go F (.If t body orelse pos :: rest) Q E s :=
  go_if S ht (fun hb s' S => h₁ hb s' _ S k) fun hb s' S => h₂ hb s' _ S k
/-- two lists that the frame alone holds -/
theorem FS.release2 {x y : Str} {D D' : Addr} {α β : Type} {K : α → Val} {K' : β → Val} {l : List α} {l' : List β} (S : FS F (D :: D' :: F.N) [(D, listP K l), (D', listP K' l')] ρ sr Nw s) (hx : ρ x = some (refV D)) (hy : ρ y = some (refV D')) (hxo : own.contains x = true) (hyo : own.contains y = true) (hxy : y ≠ x) :
    FS F F.N [] (upd (upd ρ x (lV K l)) y (lV K' l')) sr Nw s := by
  have hD : D ∉ F.N := S.fresh
  have hd := S.dist
  simp only [List.map_cons, List.map_nil, List.nodup_cons, List.mem_singleton] at hd
  have hD' : D' ∉ F.N := fun h => absurd (S.cst.base₀.live D' h) (Nat.not_lt.mpr (S.mine _ (List.mem_cons_of_mem _ List.mem_cons_self)).2.1)
  have S₁ := S.release (x := x) (Nv := D' :: F.N) hx hxo (fun a ha => List.mem_cons_of_mem _ ha) (fun p hp => by rw [List.mem_singleton.mp hp]; exact List.mem_cons_self) (fun h => by
    rcases List.mem_cons.mp h with h | h
    · exact hd.1 h
    · exact hD h)
  exact S₁.release (x := y) (by rw [upd_ne hxy]; exact hy) hyo (fun a ha => ha) (fun p hp => nomatch hp) hD'
end
end Mine
open PySem PySem.W PyProof.Rows PySem.MeetsSeq PySem.SeqRoads2
set_option Elab.async false
set_option autoImplicit false
set_option linter.unusedVariables false
namespace Mine
open PySem.StrLaws PySem.Builtin.Str
/-! what has been joined by commas is split again -/
def J : List Str → List Nat
  | [] => []
  | [p] => p.cps.toList
  | p :: q :: r => p.cps.toList ++ 44 :: 32 :: J (q :: r)
theorem comma_list : (Str.ofString ", ").cps.toList = [44, 32] := by decide +kernel
theorem comma_length : (Str.ofString ", ").length = 2 := by decide +kernel
theorem join_J : ∀ L : List Str, (Str.join (Str.ofString ", ") L).cps.toList = J L
  | [] => rfl
  | [p] => rfl
  | p :: q :: r => by
    show (p ++ Str.ofString ", " ++ Str.join (Str.ofString ", ") (q :: r)).cps.toList = _
    rw [Str.cps_append, Str.cps_append, Array.toList_append, Array.toList_append, comma_list, join_J (q :: r)]
    simp [J]
section
variable {x y : Str} (hy : y.cps.toList = [44, 32]) (hy2 : y.length = 2)
include hy hy2
theorem at_no {i : Nat} (h : ∀ t, x.cps.toList.drop i ≠ 44 :: 32 :: t) : subAt x y i = false := by
  rw [subAt_eq, hy, hy2]
  cases hd : x.cps.toList.drop i with
  | nil => rfl
  | cons c t =>
    cases t with
    | nil => simp
    | cons c' t =>
      rw [beq_eq_false_iff_ne]
      intro e
      simp only [List.take_succ_cons, List.take_zero, List.cons.injEq, and_true] at e
      exact h t (by rw [hd, e.1, e.2])
theorem at_yes {i : Nat} {t : List Nat} (h : x.cps.toList.drop i = 44 :: 32 :: t) : subAt x y i = true := by
  rw [subAt_eq, hy, hy2, h]
  rfl
theorem occ_skip {hi limit : Nat} (st : Array Nat × Nat) (r : Nat) : ∀ (k a : Nat), (∀ i, i < k → ∀ t, x.cps.toList.drop (a + i) ≠ 44 :: 32 :: t) → forIn (List.range' a (k + r)) st (occBody x y hi limit) = forIn (List.range' (a + k) r) st (occBody x y hi limit)
  | 0, a, _ => by rw [Nat.zero_add, Nat.add_zero]
  | k + 1, a, h => by
    rw [show k + 1 + r = (k + r) + 1 by omega, List.range'_succ, List.forIn_cons]
    have h0 := at_no hy hy2 (x := x) (i := a) (h 0 (by omega))
    have hb : occBody x y hi limit a st = pure (ForInStep.yield st) := by
      unfold occBody
      rw [if_neg (by rw [h0]; simp)]
    rw [hb]
    have ih := occ_skip (hi := hi) (limit := limit) st r k (a + 1) fun i hi t => by
      have := h (i + 1) (by omega) t
      rwa [show a + (i + 1) = a + 1 + i by omega] at this
    rw [show a + (k + 1) = a + 1 + k by omega]
    exact ih
theorem no_comma {p T : List Nat} (hp : 44 ∉ p) {a : Nat} (h : x.cps.toList.drop a = p ++ T) : ∀ i, i < p.length → ∀ t, x.cps.toList.drop (a + i) ≠ 44 :: 32 :: t := fun i hi t e => by
  rw [← List.drop_drop, h, List.drop_append_of_le_length (by omega)] at e
  have h1 : p.drop i = p[i] :: p.drop (i + 1) := List.drop_eq_getElem_cons _
  rw [h1, List.cons_append] at e
  injection e with e1 _
  exact hp (e1 ▸ List.getElem_mem hi)
theorem occ_go : ∀ (L : List Str), L ≠ [] → (∀ p ∈ L, 44 ∉ p.cps.toList) → ∀ (a free : Nat) (found : Array Nat), free ≤ a → found.size ≤ a → a ≤ x.length → x.cps.toList.drop a = J L →
    ∃ cuts, (forIn (List.range' a (x.length + 1 - a)) (found, free) (occBody x y x.length (x.length + 1))).run.fst.toList = found.toList ++ cuts ∧ partsFrom x 2 a cuts = L
  | [], h, _, _, _, _, _, _, _, _ => absurd rfl h
  | [p], _, hp, a, free, found, h1, h2, h3, hd => by
    have hX : x.cps.toList.length = x.length := by simp [Str.length]
    have hpl : p.cps.toList.length = x.length - a := by
      have := congrArg List.length hd
      rw [List.length_drop, hX] at this
      exact this.symm
    refine ⟨[], ?_, ?_⟩
    · rw [show x.length + 1 - a = (p.cps.toList.length + 1) + 0 by omega, occ_skip hy hy2 _ 0 (p.cps.toList.length + 1) a fun i hi t e => ?_]
      · simp
      · by_cases hlt : i < p.cps.toList.length
        · exact no_comma hy hy2 (p := p.cps.toList) (T := []) (hp p List.mem_cons_self) (by rw [hd]; simp [J]) i hlt t e
        · have : x.cps.toList.drop (a + i) = [] := List.drop_eq_nil_of_le (by omega)
          rw [this] at e; cases e
    · show [strSub x a x.length] = [p]
      have : strSub x a x.length = p := by
        apply Str.ext'
        apply Array.toList_inj.mp
        rw [strSub_toList, hd]
        show p.cps.toList.take (x.length - a) = _
        rw [← hpl, List.take_length]
      rw [this]
  | p :: q :: r, _, hp, a, free, found, h1, h2, h3, hd => by
    have hX : x.cps.toList.length = x.length := by simp [Str.length]
    have hd' : x.cps.toList.drop a = p.cps.toList ++ 44 :: 32 :: J (q :: r) := hd
    have hpl : x.length - a = p.cps.toList.length + (2 + (J (q :: r)).length) := by
      have := congrArg List.length hd'
      rw [List.length_drop, hX, List.length_append] at this
      simp only [List.length_cons] at this
      omega
    have d1 : x.cps.toList.drop (a + p.cps.toList.length) = 44 :: 32 :: J (q :: r) := by
      rw [← List.drop_drop, hd', List.drop_left]
    have d2 : x.cps.toList.drop (a + p.cps.toList.length + 1) = 32 :: J (q :: r) := by
      rw [← List.drop_drop, d1]; rfl
    have d3 : x.cps.toList.drop (a + p.cps.toList.length + 2) = J (q :: r) := by
      rw [← List.drop_drop, d1]; rfl
    obtain ⟨cuts, e1, e2⟩ := occ_go (q :: r) (by simp) (fun z hz => hp z (List.mem_cons_of_mem _ hz)) (a + p.cps.toList.length + 2) (a + p.cps.toList.length + y.length) (found.push (a + p.cps.toList.length)) (by omega) (by simp only [Array.size_push]; omega) (by omega) d3
    refine ⟨(a + p.cps.toList.length) :: cuts, ?_, ?_⟩
    · rw [show x.length + 1 - a = p.cps.toList.length + ((x.length + 1 - (a + p.cps.toList.length + 2)) + 1 + 1) by omega, occ_skip hy hy2 _ _ p.cps.toList.length a (no_comma hy hy2 (hp p List.mem_cons_self) hd')]
      rw [List.range'_succ, List.forIn_cons]
      have hb : occBody x y x.length (x.length + 1) (a + p.cps.toList.length) (found, free) = pure (ForInStep.yield (found.push (a + p.cps.toList.length), a + p.cps.toList.length + y.length)) := by
        unfold occBody
        rw [if_pos ⟨⟨⟨by show found.size < _; omega, by show free ≤ _; omega⟩, by omega⟩, at_yes hy hy2 d1⟩]
      rw [hb]
      have hs := occ_skip hy hy2 (x := x) (hi := x.length) (limit := x.length + 1) (found.push (a + p.cps.toList.length), a + p.cps.toList.length + y.length) (x.length + 1 - (a + p.cps.toList.length + 2)) 1 (a + p.cps.toList.length + 1) (fun i hi t e => by
        have : i = 0 := by omega
        subst this
        rw [Nat.add_zero, d2] at e
        injection e with e1
        cases e1)
      rw [show 1 + (x.length + 1 - (a + p.cps.toList.length + 2)) = x.length + 1 - (a + p.cps.toList.length + 2) + 1 by omega] at hs
      show (forIn (List.range' (a + p.cps.toList.length + 1) (x.length + 1 - (a + p.cps.toList.length + 2) + 1)) (found.push (a + p.cps.toList.length), a + p.cps.toList.length + y.length) (occBody x y x.length (x.length + 1))).run.fst.toList = _
      rw [hs, e1]
      simp
    · show strSub x a (a + p.cps.toList.length) :: partsFrom x 2 (a + p.cps.toList.length + 2) cuts = _
      rw [e2]
      have : strSub x a (a + p.cps.toList.length) = p := by
        apply Str.ext'
        apply Array.toList_inj.mp
        rw [strSub_toList, hd', Nat.add_sub_cancel_left, List.take_left]
      rw [this]
end
theorem split_join {L : List Str} (h0 : L ≠ []) (h : ∀ p ∈ L, 44 ∉ p.cps.toList) : Txt.split (Txt.join (Str.ofString ", ") L) (Str.ofString ", ") = L := by
  have hj : Txt.join (Str.ofString ", ") L = Str.join (Str.ofString ", ") L := glued_eq_join _ _
  rw [hj]
  have hJ := join_J L
  generalize Str.join (Str.ofString ", ") L = x at hJ
  have hX : x.cps.toList.length = x.length := by simp [Str.length]
  obtain ⟨cuts, e1, e2⟩ := occ_go (x := x) comma_list comma_length L h0 h 0 0 #[] (Nat.le_refl _) (by simp) (Nat.zero_le _) (by rw [List.drop_zero]; exact hJ)
  have e3 : occurrences x (Str.ofString ", ") 0 x.length (x.length + 1) = cuts := by
    rw [occ_eq, e1]; simp
  have hone : cuts = [] → [x] = L := fun hc => by
    rw [hc] at e2
    rw [← e2]
    show [x] = [strSub x 0 x.length]
    rw [sub_whole]
  unfold Txt.split
  rw [e3]
  by_cases hc : (decide (x.length < (Str.ofString ", ").length) || decide (strKind x < strKind (Str.ofString ", "))) = true
  · rw [if_pos hc]
    have hk : ¬ strKind x < strKind (Str.ofString ", ") := by
      have h1 := strKind_pos x
      have h2 : strKind (Str.ofString ", ") = 1 := by decide +kernel
      omega
    have hlt : x.length < 2 := by
      rw [comma_length] at hc
      simpa [hk] using hc
    match L, h0, hJ, e2 with
    | [p], _, hJ, e2 =>
      have : x = p := by
        apply Str.ext'
        exact Array.toList_inj.mp hJ
      rw [this]
    | p :: q :: r, _, hJ, _ =>
      have := congrArg List.length hJ
      rw [hX] at this
      simp only [J, List.length_append, List.length_cons] at this
      omega
  · rw [if_neg hc]
    by_cases hz : cuts = []
    · rw [hz]; exact hone hz
    · rw [if_neg (by simpa using hz), comma_length, partsBetween_eq, e2]
end Mine
open PySem PySem.W PyProof.Rows PySem.MeetsSeq PySem.SeqRoads2
set_option Elab.async false
set_option autoImplicit false
set_option linter.unusedVariables false
namespace Mine
/-! words of flags -/
def wordOf (ps : List Nat) : Nat := (ps.map fun p => 2 ^ p).sum
theorem word_low {m : Nat} : ∀ {ps : List Nat}, (∀ q ∈ ps, m < q) → ∃ a, wordOf ps = 2 ^ (m + 1) * a
  | [], _ => ⟨0, rfl⟩
  | p :: ps, h => by
    obtain ⟨a, ha⟩ := word_low (m := m) (ps := ps) fun q hq => h q (List.mem_cons_of_mem _ hq)
    have hp := h p List.mem_cons_self
    refine ⟨2 ^ (p - (m + 1)) + a, ?_⟩
    show 2 ^ p + wordOf ps = _
    rw [ha, Nat.mul_add, ← Nat.pow_add, show m + 1 + (p - (m + 1)) = p by omega]
theorem word_bit : ∀ {ps : List Nat}, ps.Pairwise (· < ·) → ∀ i, (wordOf ps).testBit i = decide (i ∈ ps)
  | [], _, i => by
    show (0 : Nat).testBit i = _
    simp
  | p :: ps, h, i => by
    obtain ⟨h1, h2⟩ := List.pairwise_cons.mp h
    obtain ⟨a, ha⟩ := word_low (m := p) h1
    have ih := word_bit h2 i
    rw [ha] at ih
    have e : wordOf (p :: ps) = 2 ^ (p + 1) * a + 2 ^ p := by
      show 2 ^ p + wordOf ps = _
      rw [ha, Nat.add_comm]
    rw [e, Nat.testBit_two_pow_mul_add a (Nat.pow_lt_pow_right (by decide) (Nat.lt_succ_self p)) i]
    rw [Nat.testBit_two_pow_mul] at ih
    by_cases hlt : i < p + 1
    · rw [if_pos hlt, Nat.testBit_two_pow]
      have hn : i ∉ ps := fun hm => by have := h1 i hm; omega
      by_cases hp : p = i
      · subst hp; simp
      · have : ¬ i = p := fun h => hp h.symm
        simp [hp, hn, this]
    · rw [if_neg hlt]
      have hge : p + 1 ≤ i := by omega
      have hne : ¬ i = p := by omega
      simp only [ge_iff_le, hge, decide_true, Bool.true_and] at ih
      rw [ih]
      simp [hne]
theorem word_zero {ps : List Nat} : wordOf ps = 0 ↔ ps = [] := by
  cases ps with
  | nil => simp [wordOf]
  | cons p ps =>
    refine ⟨fun h => ?_, fun h => by cases h⟩
    have h1 : 2 ^ p + wordOf ps = 0 := h
    have h2 := Nat.two_pow_pos p
    omega
theorem word_lt {ps : List Nat} (h : ps.Pairwise (· < ·)) (h32 : ∀ p ∈ ps, p < 32) : wordOf ps < 2 ^ 32 := by
  refine Nat.lt_pow_two_of_testBit _ fun i hi => ?_
  rw [word_bit h]
  exact decide_eq_false fun hm => by have := h32 i hm; omega
theorem rise_unique : ∀ {l r : List Nat}, l.Pairwise (· < ·) → r.Pairwise (· < ·) → (∀ i, i ∈ l ↔ i ∈ r) → l = r
  | [], [], _, _, _ => rfl
  | [], b :: r, _, _, h => absurd ((h b).mpr List.mem_cons_self) (by simp)
  | a :: l, [], _, _, h => absurd ((h a).mp List.mem_cons_self) (by simp)
  | a :: l, b :: r, hl, hr, h => by
    obtain ⟨h1, h2⟩ := List.pairwise_cons.mp hl
    obtain ⟨h3, h4⟩ := List.pairwise_cons.mp hr
    have hab : a = b := by
      rcases List.mem_cons.mp ((h a).mp List.mem_cons_self) with e | e
      · exact e
      · rcases List.mem_cons.mp ((h b).mpr List.mem_cons_self) with e' | e'
        · exact e'.symm
        · have := h1 b e'; have := h3 a e; omega
    subst hab
    rw [rise_unique h2 h4 fun i => ⟨fun hi => ?_, fun hi => ?_⟩]
    · rcases List.mem_cons.mp ((h i).mp (List.mem_cons_of_mem _ hi)) with e | e
      · have := h1 i hi; omega
      · exact e
    · rcases List.mem_cons.mp ((h i).mpr (List.mem_cons_of_mem _ hi)) with e | e
      · have := h3 i hi; omega
      · exact e
theorem flags_word {ps : List Nat} (h : ps.Pairwise (· < ·)) (h32 : ∀ p ∈ ps, p < 32) : flagNames (wordOf ps) = if ps = [] then [Str.ofString "0x0"] else ps.map fun p => lawName (p : Nat) := by
  unfold flagNames
  by_cases h0 : ps = []
  · rw [if_pos (word_zero.mpr h0), if_pos h0]
  · rw [if_neg (fun e => h0 (word_zero.mp e)), if_neg h0]
    unfold flagsUpto
    have e : (List.range 32).filter (fun i => (wordOf ps).testBit i) = ps := by
      refine rise_unique (List.Pairwise.filter _ List.pairwise_lt_range) h fun i => ?_
      rw [List.mem_filter, List.mem_range, word_bit h]
      exact ⟨fun x => by simpa using x.2, fun x => ⟨h32 i x, by simpa using x⟩⟩
    rw [e]
theorem word_xor {ps qs rs : List Nat} (hp : ps.Pairwise (· < ·)) (hq : qs.Pairwise (· < ·)) (hr : rs.Pairwise (· < ·)) (h : ∀ i, i ∈ rs ↔ ¬ (i ∈ ps ↔ i ∈ qs)) : wordOf ps ^^^ wordOf qs = wordOf rs := by
  apply Nat.eq_of_testBit_eq
  intro i
  rw [Nat.testBit_xor, word_bit hp, word_bit hq, word_bit hr]
  have hi := h i
  by_cases h1 : i ∈ ps <;> by_cases h2 : i ∈ qs <;> simp [h1, h2] at hi <;> simp [h1, h2, hi]

/-- the flags at the places p0 + d * k, k below n, that b chooses -/
def sel (n : Nat) (b : Nat → Bool) : List Nat := (List.range n).filter b
def plc (p0 d k : Nat) : Nat := p0 + d * k
theorem plc_lt {p0 d : Nat} (hd : 1 ≤ d) {i j : Nat} (h : i < j) : plc p0 d i < plc p0 d j := by
  unfold plc
  have : d * i < d * j := Nat.mul_lt_mul_of_pos_left h hd
  omega
theorem plc_inj {p0 d : Nat} (hd : 1 ≤ d) {i j : Nat} (h : plc p0 d i = plc p0 d j) : i = j := by
  rcases Nat.lt_trichotomy i j with h1 | h1 | h1
  · have := plc_lt (p0 := p0) hd h1; omega
  · exact h1
  · have := plc_lt (p0 := p0) hd h1; omega
theorem places_rise {n p0 d : Nat} (hd : 1 ≤ d) (b : Nat → Bool) : ((sel n b).map (plc p0 d)).Pairwise (· < ·) := by
  rw [List.pairwise_map]
  exact List.Pairwise.imp (fun h => plc_lt hd h) (List.Pairwise.filter _ List.pairwise_lt_range)
theorem mem_places {n p0 d : Nat} (hd : 1 ≤ d) {b : Nat → Bool} {i : Nat} : i ∈ (sel n b).map (plc p0 d) ↔ ∃ k, k < n ∧ b k = true ∧ plc p0 d k = i := by
  unfold sel
  simp only [List.mem_map, List.mem_filter, List.mem_range]
  exact ⟨fun ⟨k, ⟨h1, h2⟩, h3⟩ => ⟨k, h1, h2, h3⟩, fun ⟨k, h1, h2, h3⟩ => ⟨k, ⟨h1, h2⟩, h3⟩⟩
def maskB (n p0 d : Nat) (b : Nat → Bool) : Nat := wordOf ((sel n b).map (plc p0 d))
theorem maskB_xor {n p0 d : Nat} (hd : 1 ≤ d) (b b' : Nat → Bool) : maskB n p0 d b ^^^ maskB n p0 d b' = maskB n p0 d (fun k => b k != b' k) := by
  refine word_xor (places_rise hd b) (places_rise hd b') (places_rise hd _) fun i => ?_
  rw [mem_places hd, mem_places hd, mem_places hd]
  constructor
  · rintro ⟨k, h1, h2, rfl⟩ h
    have e1 : (∃ k', k' < n ∧ b k' = true ∧ plc p0 d k' = plc p0 d k) ↔ b k = true := ⟨fun ⟨k', _, h4, h5⟩ => plc_inj hd h5 ▸ h4, fun h => ⟨k, h1, h, rfl⟩⟩
    have e2 : (∃ k', k' < n ∧ b' k' = true ∧ plc p0 d k' = plc p0 d k) ↔ b' k = true := ⟨fun ⟨k', _, h4, h5⟩ => plc_inj hd h5 ▸ h4, fun h => ⟨k, h1, h, rfl⟩⟩
    rw [e1, e2] at h
    cases hb : b k <;> cases hb' : b' k <;> simp [hb, hb'] at h h2
  · intro h
    have : ∃ k, k < n ∧ plc p0 d k = i ∧ (b k != b' k) = true := by
      refine Classical.byContradiction fun hn => h ⟨?_, ?_⟩
      · rintro ⟨k, h1, h2, rfl⟩
        refine ⟨k, h1, ?_, rfl⟩
        cases hb' : b' k
        · exact absurd ⟨k, h1, rfl, by rw [h2, hb']; rfl⟩ hn
        · rfl
      · rintro ⟨k, h1, h2, rfl⟩
        refine ⟨k, h1, ?_, rfl⟩
        cases hb : b k
        · exact absurd ⟨k, h1, rfl, by rw [h2, hb]; rfl⟩ hn
        · rfl
    obtain ⟨k, h1, h2, h3⟩ := this
    exact ⟨k, h1, h3, h2⟩
/-- the names of the chosen flags -/
def rowB (n p0 d : Nat) (b : Nat → Bool) : List Str := if sel n b = [] then [Str.ofString "0x0"] else (sel n b).map fun k => lawName ((plc p0 d k : Nat) : Int)
theorem names_maskB {n p0 d : Nat} (hd : 1 ≤ d) (h32 : ∀ k, k < n → plc p0 d k < 32) (b : Nat → Bool) : flagNames (maskB n p0 d b) = rowB n p0 d b := by
  unfold maskB rowB
  rw [flags_word (places_rise hd b) fun p hp => by
    obtain ⟨k, h1, _, rfl⟩ := (mem_places hd).mp hp
    exact h32 k h1]
  by_cases h : sel n b = []
  · rw [h]; rfl
  · rw [if_neg h, if_neg (by simpa using h), List.map_map]
    rfl
theorem rowB_ne {n p0 d : Nat} (b : Nat → Bool) : rowB n p0 d b ≠ [] := by
  unfold rowB
  split
  · simp
  · rename_i h; simpa using h
theorem rowB_clean {n p0 d : Nat} (h32 : ∀ k, k < n → plc p0 d k < 32) (b : Nat → Bool) : ∀ x ∈ rowB n p0 d b, 44 ∉ x.cps.toList := by
  intro x hx
  unfold rowB at hx
  split at hx
  · rw [List.mem_singleton.mp hx]; decide +kernel
  · obtain ⟨k, hk, rfl⟩ := List.mem_map.mp hx
    have h1 : k < n := by
      have := (List.mem_filter.mp hk).1
      simpa using this
    have := (lawName_all ⟨plc p0 d k, h32 k h1⟩).2.2.1
    intro hm
    have e : (lawName ((plc p0 d k : Nat) : Int)).cps.toList.contains 44 = true := List.contains_iff_mem.mpr hm
    rw [show (lawName ((plc p0 d k : Nat) : Int)).cps.toList.contains 44 = false from this] at e
    cases e
theorem pretty_split {n p0 d : Nat} (hd : 1 ≤ d) (h32 : ∀ k, k < n → plc p0 d k < 32) (b : Nat → Bool) : Txt.split (pretty (maskB n p0 d b)) (Str.ofString ", ") = rowB n p0 d b := by
  unfold pretty
  rw [names_maskB hd h32]
  exact split_join (rowB_ne b) (rowB_clean h32 b)
theorem maskB_lt {n p0 d : Nat} (hd : 1 ≤ d) (h32 : ∀ k, k < n → plc p0 d k < 32) (b : Nat → Bool) : maskB n p0 d b < 2 ^ 32 := word_lt (places_rise hd b) fun p hp => by
    obtain ⟨k, h1, _, rfl⟩ := (mem_places hd).mp hp
    exact h32 k h1
theorem lawName_plc {n p0 d : Nat} (hd : 1 ≤ d) (h32 : ∀ k, k < n → plc p0 d k < 32) {i j : Nat} (hi : i < n) (hj : j < n) (h : lawName ((plc p0 d i : Nat) : Int) = lawName ((plc p0 d j : Nat) : Int)) : i = j := by
  have := lawName_inj ⟨plc p0 d i, h32 i hi⟩ ⟨plc p0 d j, h32 j hj⟩ h
  exact plc_inj hd (Fin.mk.inj_iff.mp this)
theorem count_one {x : Str} : ∀ {l : List Str}, l.Nodup → x ∈ l → l.count x = 1
  | [], _, h => by cases h
  | a :: l, hn, h => by
    obtain ⟨h1, h2⟩ := List.nodup_cons.mp hn
    rw [List.count_cons]
    rcases List.mem_cons.mp h with e | h
    · subst e
      rw [List.count_eq_zero_of_not_mem h1]
      simp
    · have hne : ¬ (a == x) = true := fun e => h1 (by rw [eq_of_beq e]; exact h)
      rw [count_one h2 h, if_neg hne]
/-- how often a flag's name stands among the names of the chosen flags -/
theorem count_rowB {n p0 d : Nat} (hd : 1 ≤ d) (h32 : ∀ k, k < n → plc p0 d k < 32) (b : Nat → Bool) {k : Nat} (hk : k < n) : (rowB n p0 d b).count (lawName ((plc p0 d k : Nat) : Int)) = (b k).toNat := by
  unfold rowB
  split
  · rename_i h
    have hb : b k = false := by
      cases hb : b k
      · rfl
      · have : k ∈ sel n b := List.mem_filter.mpr ⟨by simpa using hk, hb⟩
        rw [h] at this; cases this
    rw [hb]
    have := (lawName_all ⟨plc p0 d k, h32 k hk⟩).2.2.2.2
    rw [List.count_eq_zero_of_not_mem (by simpa using this)]
    rfl
  · have hnd : ((sel n b).map fun k => lawName ((plc p0 d k : Nat) : Int)).Nodup := by
      rw [List.nodup_iff_pairwise_ne, List.pairwise_map]
      have h1 : (sel n b).Pairwise (· < ·) := List.Pairwise.filter _ List.pairwise_lt_range
      have h2 : ∀ i ∈ sel n b, i < n := fun i hi => by simpa using (List.mem_filter.mp hi).1
      refine List.Pairwise.imp_of_mem (fun hi hj hij e => ?_) h1
      have := lawName_plc hd h32 (h2 _ hi) (h2 _ hj) e
      omega
    cases hb : b k
    · refine List.count_eq_zero_of_not_mem fun hm => ?_
      obtain ⟨j, hj, e⟩ := List.mem_map.mp hm
      have hjn : j < n := by simpa using (List.mem_filter.mp hj).1
      have := lawName_plc hd h32 hjn hk e
      subst this
      have := (List.mem_filter.mp hj).2
      rw [hb] at this; cases this
    · have hm : lawName ((plc p0 d k : Nat) : Int) ∈ (sel n b).map fun k => lawName ((plc p0 d k : Nat) : Int) := List.mem_map.mpr ⟨k, List.mem_filter.mpr ⟨by simpa using hk, hb⟩, rfl⟩
      exact count_one hnd hm
end Mine
open PySem PySem.W PyProof.Rows PySem.MeetsSeq PySem.SeqRoads2
set_option Elab.async false
set_option autoImplicit false
set_option linter.unusedVariables false
namespace Mine
open PySem.AutoSeq1 PySem.MeetsSeq
set_option maxHeartbeats 4000000 in
theorem range_contains (r : Addr) (i : Nat) (hi : i < 4) (t ta tb tc : Tok) : Meets (Builtin.«range.__contains__» ⟨[.ref r, .int (i : Int) t], []⟩)
    (fun _ R s => s.heap.get? r = some { cls := .type "range", data := .fields #[.int 0 ta, .int 4 tb, .int 1 tc] } ∧ R (.ok (.ret (.bool true))) s) := by
  intro prog w A R s h
  obtain ⟨hp, g, d, tk, os⟩ := s; obtain ⟨hr, h⟩ := h
  wp_walk using wpAny_loadPart' hr
  match i, hi with
  | 0, _ => exact h
  | 1, _ => exact h
  | 2, _ => exact h
  | 3, _ => exact h
section
variable {X : Cx} {n : Nat} {sc : Scope} {ρ : Rho}
theorem cmp_notin_range {k : Nat} (hk : k < 4) : Op2 X n (compareOp .NotIn) (zV k) (rV 0 (4 : Nat)) (bV false) := by
  rintro A N s _ _ E B ⟨t, rfl⟩ ⟨r, ta, tb, tc, rfl, ho⟩
  exact notIn_meets ⟨_, vw_get ho, rfl⟩ F.slot_range_contains F.entry_range_contains (F.args_range_contains_2 _ _) (range_contains r k hk t ta tb tc) ⟨vw_get ho, _, rfl, rfl, keeps_refl s⟩
def typeV (T : String) : Val := ⟨fun _ v => v = .type T, fun _ _ _ _ h => h⟩
theorem Ev.bname {f : Str} {T : String} {pos : Pos} (hf : f ∈ bnames) (hb : bootBuiltins f = some (.type T)) (hk : sc.names.lookup f = some .globalImplicit) : Ev X n sc ρ (.Name f pos) (typeV T) := .mk fun A env N s E P => by
  have hd : (f == ("__debug__" : Str)) = false := by revert hf; unfold bnames; intro hf; simp only [List.mem_cons, List.not_mem_nil, or_false] at hf; rcases hf with rfl | rfl | rfl | rfl | rfl | rfl | rfl | rfl <;> decide
  exact wpAny_Name (load_builtin P hk hf hb ⟨rfl, keeps_refl s⟩) hd
theorem fn_isbool {k : Int} : Fn X n (.builtin "isinstance") [iV k, typeV "bool"] (bV false) := by
  refine ⟨?_⟩
  intro A N s vs E B hp
  cases hp with
  | cons h h' => cases h' with | cons h2 h3 =>
    cases h3
    obtain ⟨t, rfl⟩ := h
    obtain rfl := h2
    exact IsiPair.int_bool ⟨rfl, keeps_toks⟩
theorem boot_isinstance' : bootBuiltins "isinstance" = some (.builtin "isinstance") := by decide +kernel
theorem boot_bool' : bootBuiltins "bool" = some (.type "bool") := by decide +kernel
theorem EvT.chain {l r₁ r₂ : Expr} {op₁ op₂ : CmpOp} {pos : Pos} {V₁ V₂ V₃ : Val} {b c : Bool} (hl : Ev X n sc ρ l V₁) (h₁ : Ev X n sc ρ r₁ V₂) (o₁ : Op2 X n (compareOp op₁) V₁ V₂ (bV b)) (h₂ : Ev X n sc ρ r₂ V₃) (o₂ : Op2 X n (compareOp op₂) V₂ V₃ (bV c))
    (hm : lastMarks [op₁, op₂] [r₁, r₂] = false := by with_unfolding_all rfl) : EvT X n sc ρ (.Compare l [op₁, op₂] [r₁, r₂] pos) (b && c) := .mk fun A env N s E P => by
  refine isTrue_chain (wpAny_mono (hl.go A env N s E P) (fun x s₁ hx => ?_) fun _ _ e => e) hm
  refine test_link (wpAny_mono (h₁.go A env N s₁ E (P.keeps hx.2)) (fun y s₂ hy => ?_) fun _ _ e => e)
  have k2 := keeps_trans hx.2 hy.2
  refine wpAny_mono (o₁ A N s₂ x y E (P.base.keeps k2) (V₁.mono _ _ _ (keeps_vw hy.2) hx.1) hy.1) (fun v s₃ hv => ?_) fun _ _ e => e
  obtain ⟨rfl, k3⟩ := hv
  have k3' := keeps_trans k2 k3
  refine wpAny_truthy_bool ?_
  cases b with
  | false => exact ⟨rfl, k3'⟩
  | true =>
    show wpAny X.M A (testChain pos y [op₂] [eval r₂ env]) _ E s₃
    refine test_last (wpAny_mono (h₂.go A env N s₃ E (P.keeps k3')) (fun z s₄ hz => ?_) fun _ _ e => e)
    have k4 := keeps_trans k3' hz.2
    refine wpAny_mono (o₂ A N s₄ y z E (P.base.keeps k4) (V₂.mono _ _ _ (keeps_vw (keeps_trans k3 hz.2)) hy.1) hz.1) (fun v s₅ hv => ?_) fun _ _ e => e
    obtain ⟨rfl, k5⟩ := hv
    exact wpAny_truthy_bool ⟨rfl, keeps_trans k4 k5⟩
end
section
variable {X : Cx} {n : Nat} {sc : Scope} {own : List Str} {F : Frm X n sc own} {Nv Nw : List Addr} {ω : List (Addr × OwnP)} {ρ : Rho} {sr s s' : Shared}
/-- a new list, the frame's alone -/
theorem FS.push_own {α : Type} {K : α → Val} {l : List α} {vs : List Value} (S₁ : FS F Nv ω ρ sr Nw s) (hp : Paired (fun v x => (K x).holds (vw Nv s.heap) v) vs l) :
    FS F (s.heap.objs.size :: Nv) ((s.heap.objs.size, listP K l) :: ω) ρ sr Nw { s with heap := s.heap.push { cls := .type "list", data := .seq vs.toArray } } := by
  have hfresh : s.heap.objs.size ∉ Nv := S₁.cst.pre.base.fresh (Nat.le_refl _)
  have hω : s.heap.objs.size ∉ ω.map (·.1) := fun hm => by
    obtain ⟨p, hp, e⟩ := List.mem_map.mp hm
    exact hfresh (e ▸ (S₁.mine p hp).1)
  have kp : Kp s { s with heap := s.heap.push { cls := .type "list", data := .seq vs.toArray } } := keeps_push
  have hview : VLe (vw Nv s.heap) (vw (s.heap.objs.size :: Nv) (s.heap.push { cls := .type "list", data := .seq vs.toArray })) := fun b o e _ => by
    obtain ⟨e1, e2⟩ := vw_some.mp e
    refine vw_some.mpr ⟨fun hm => ?_, keeps_get kp b o e2⟩
    rcases List.mem_cons.mp hm with rfl | hm
    · exact absurd (Heap.lt_size e2) (Nat.lt_irrefl _)
    · exact e1 hm
  have hlt : s.heap.objs.size < (s.heap.push { cls := .type "list", data := .seq vs.toArray }).objs.size := by rw [Heap.size_push]; exact Nat.lt_succ_self _
  refine ⟨S₁.cst.extend kp (Nat.le_refl _) hlt, fun p hp' => ?_, ?_, S₁.mv.trans (KpB.of kp), fun p hp' => ?_⟩
  · rcases List.mem_cons.mp hp' with rfl | hp'
    · exact ⟨List.mem_cons_self, S₁.cst.kept.size, vs, ⟨0, Heap.get?_push_size _ rfl⟩, paired_mono hview hp⟩
    · obtain ⟨h1, h2, ws, h3, h4⟩ := S₁.mine p hp'
      exact ⟨List.mem_cons_of_mem _ h1, h2, ws, h3.at fun o e => keeps_get kp _ o e, p.2.mono _ _ _ hview h4⟩
  · rw [List.map_cons, List.nodup_cons]; exact ⟨hω, S₁.dist⟩
  · rcases List.mem_cons.mp hp' with rfl | hp'
    · exact .inr S₁.mv.size
    · exact S₁.old p hp'
/-- x, y = ([], []): two lists, the frame's alone -/
theorem go_own2 {x y : Str} {px py tp vp pos lp lp' : Pos} {k k' : Nat} {α β : Type} {K : α → Val} {K' : β → Val} {rest : List Stmt} {Q : Flow → Shared → Prop} {E : Value → Shared → Prop} (S : FS F Nv ω ρ sr Nw s)
    (hx : own.contains x = true) (hx0 : (x == (".0" : Str)) = false) (hy : own.contains y = true) (hy0 : (y == (".0" : Str)) = false)
    (kk : ∀ D D' s', FS F (D' :: D :: Nv) ((D', listP K' []) :: (D, listP K []) :: ω) (upd (upd ρ y (refV D')) x (refV D)) sr Nw s' → Go F rest Q E s')
    (hw : ∀ env : Env, env.scope = sc → swappedStores [.Tuple [.Name x px, .Name y py] k tp] (.Tuple [.List [] lp, .List [] lp'] k' vp) env = pure (some [x, y])) :
    Go F (.Assign [.Tuple [.Name x px, .Name y py] k tp] (.Tuple [.List [] lp, .List [] lp'] k' vp) pos :: rest) Q E s := by
  refine ⟨wpAny_execs_cons (Assign_Tuple_swapped (names := [x, y]) (wpAny_Tuple ?_) rfl (hw _ S.cst.is.eq))⟩
  rw [starEach_cons rfl, backTo_cons, starEach_cons rfl, backTo_cons]
  refine Calls.spliced_cons (wpAny_List (wpAny_pure ⟨Nat.zero_le _, ?_⟩))
  have S₁ := S.push_own (K := K) (l := []) (vs := []) .nil
  generalize hs₁ : ({ s with heap := s.heap.push { cls := .type "list", data := .seq ([] : List Value).toArray } } : Shared) = s₁ at S₁
  refine Calls.spliced_cons (wpAny_List (wpAny_pure ⟨Nat.zero_le _, ?_⟩))
  have S₂ := S₁.push_own (K := K') (l := []) (vs := []) .nil
  generalize hs₂ : ({ s₁ with heap := s₁.heap.push { cls := .type "list", data := .seq ([] : List Value).toArray } } : Shared) = s₂ at S₂
  refine Calls.spliced_nil ⟨by show 2 ≤ _; rw [sizeLine_eq]; decide, ?_⟩
  generalize s.heap.objs.size = D at *
  generalize s₁.heap.objs.size = D' at *
  have kp2 : Kp s₂ { s₂ with heap := s₂.heap.push { cls := .type "tuple", data := .seq #[.ref D, .ref D'] } } := keeps_push
  have S₃ := S₂.keeps kp2
  have ht : IsTup (s₂.heap.push { cls := .type "tuple", data := .seq #[.ref D, .ref D'] }) s₂.heap.objs.size #[.ref D, .ref D'] := ⟨_, Heap.get?_push_size _ rfl, rfl, 0, rfl⟩
  have hu := wpAny_size (unpackItems_tuple (prog := X.prog) (w := X.w) (A := F.A) (E := E) (s := { s₂ with heap := s₂.heap.push { cls := .type "tuple", data := .seq #[.ref D, .ref D'] } })
    (Q := fun vs s' => vs = [.ref D, .ref D'] ∧ ∃ h', s' = { { s₂ with heap := s₂.heap.push { cls := .type "tuple", data := .seq #[.ref D, .ref D'] } } with heap := h' } ∧ ∀ b o, (s₂.heap.push { cls := .type "tuple", data := .seq #[.ref D, .ref D'] }).get? b = some o → h'.get? b = some o) S₃.cst.base₀.lev.handled ht
    fun h' he => ⟨rfl, h', rfl, fun b o e => he b o (Nat.ne_of_lt (Heap.lt_size e)) e⟩)
  refine wpAny_mono hu (fun items t₃ ht₃ => ?_) fun _ _ e => e
  obtain ⟨hsz, rfl, h', e', hk'⟩ := ht₃
  have kp3 : Kp { s₂ with heap := s₂.heap.push { cls := .type "tuple", data := .seq #[.ref D, .ref D'] } } t₃ := ⟨⟨h', _, e', hk'⟩, hsz⟩
  have S₄ := S₃.keeps kp3
  refine assignInOrder_cons (bindName_ (wpAny_mono (S₄.store (V := refV D') (mem_of hy) hy0 rfl) (fun _ t₄ h₄ => ?_) fun _ _ e => e))
  refine assignInOrder_cons (bindName_ (wpAny_mono (h₄.1.store (V := refV D) (mem_of hx) hx0 rfl) (fun _ t₅ h₅ => ?_) fun _ _ e => e))
  exact assignInOrder_nil (kk D D' t₅ h₅.1).go
end
end Mine
open PySem PySem.W PyProof.Rows PySem.MeetsSeq PySem.SeqRoads2
set_option Elab.async false
set_option autoImplicit false
set_option linter.unusedVariables false
namespace Mine
/-! law 2: the orders and their rows, in numbers -/
def ordersTo : Nat → List (List Nat)
  | 0 => [[]]
  | k + 1 => (ordersTo k).flatMap fun o => if (fun _ : List Nat => true) o then ((List.range (k + 1)).filter ((fun (_ : List Nat) (_ : Nat) => true) o)).map fun j : Nat => (pick o none (some (j : Int)) none ++ [k]) ++ pick o (some (j : Int)) none none else []
def ordersL : List (List Nat) := [[3, 2, 1, 0], [2, 3, 1, 0], [2, 1, 3, 0], [2, 1, 0, 3], [3, 1, 2, 0], [1, 3, 2, 0], [1, 2, 3, 0], [1, 2, 0, 3], [3, 1, 0, 2], [1, 3, 0, 2], [1, 0, 3, 2], [1, 0, 2, 3], [3, 2, 0, 1], [2, 3, 0, 1], [2, 0, 3, 1], [2, 0, 1, 3], [3, 0, 2, 1], [0, 3, 2, 1], [0, 2, 3, 1], [0, 2, 1, 3], [3, 0, 1, 2], [0, 3, 1, 2], [0, 1, 3, 2], [0, 1, 2, 3]]
set_option maxRecDepth 100000 in
theorem orders_lit : ordersTo 4 = ordersL := by decide +kernel
set_option maxRecDepth 100000 in
theorem orders_few : ∀ k : _root_.Fin 5, (ordersTo k.val).length ≤ 24 ∧ ∀ o ∈ ordersTo k.val, o.length = k.val := by decide +kernel
theorem ordersL_all : ∀ o ∈ ordersL, o.length = 4 ∧ (o.getD 0 0 < 4 ∧ o.getD 1 0 < 4 ∧ o.getD 2 0 < 4 ∧ o.getD 3 0 < 4) := by decide +kernel
/-- the row of an order, from the last place to the first -/
def rowTo (ws o : List Nat) : Nat → List Nat
  | 0 => []
  | j + 1 => (List.replicate (ws.getD (o.getD j 0) 0) [j]).flatten ++ rowTo ws o j
def idx (lo hi st : Option Int) (n : Nat) : List Nat := sliceRange (sliceBounds lo hi st n).1 (sliceBounds lo hi st n).2.1 (sliceBounds lo hi st n).2.2
theorem idx_perm : ∀ n : _root_.Fin 13, (idx none none (some 2) n.val ++ idx (some 1) none (some 2) n.val).isPerm (List.range n.val) = true := by decide +kernel
theorem filterMap_range {α : Type} : ∀ (l : List α), (List.range l.length).filterMap (fun i => l[i]?) = l
  | [] => rfl
  | a :: l => by
    rw [List.length_cons, List.range_succ_eq_map, List.filterMap_cons]
    simp only [List.getElem?_cons_zero, List.filterMap_map]
    congr 1
    exact filterMap_range l
def row2 (l : List Nat) : List Nat := pick l none none (some 2) ++ pick l (some 1) none (some 2)
theorem row2_perm (l : List Nat) (h : l.length < 13) : (row2 l).Perm l := by
  unfold row2 pick
  have h1 : (idx none none (some 2) l.length ++ idx (some 1) none (some 2) l.length).Perm (List.range l.length) := List.isPerm_iff.mp (idx_perm ⟨l.length, h⟩)
  have h2 := h1.filterMap fun i => l[i]?
  rw [filterMap_range, List.filterMap_append] at h2
  exact h2
theorem natI_inj : ∀ {l r : List Nat}, natI l = natI r → l = r
  | [], [], _ => rfl
  | [], _ :: _, h => nomatch h
  | _ :: _, [], h => nomatch h
  | a :: l, b :: r, h => by
    have h' : ((a : Int) :: natI l) = ((b : Int) :: natI r) := h
    injection h' with h1 h2
    rw [natI_inj h2, Int.ofNat.inj h1]
theorem isortN_perm {l r : List Nat} (h : l.Perm r) : isortN l = isortN r := by
  apply natI_inj
  rw [← isort_natI, ← isort_natI]
  exact sorted_unique ((isort_perm _).trans ((h.map _).trans (isort_perm _).symm)) (isort_sorted _) (isort_sorted _)
theorem isortN_eq {l r : List Nat} (h : l.Perm r) (hr : r.Pairwise (· ≤ ·)) : isortN l = r := by
  apply natI_inj
  rw [← isort_natI]
  refine sorted_unique ((isort_perm _).trans (h.map _)) (isort_sorted _) ?_
  unfold natI
  rw [List.pairwise_map]
  exact hr.imp fun h => Int.ofNat_le.mpr h
/-- the row of an order, in order -/
def ascOf (ws o : List Nat) : List Nat := List.replicate (ws.getD (o.getD 0 0) 0) 0 ++ (List.replicate (ws.getD (o.getD 1 0) 0) 1 ++ (List.replicate (ws.getD (o.getD 2 0) 0) 2 ++ List.replicate (ws.getD (o.getD 3 0) 0) 3))
theorem flat_rep (m j : Nat) : (List.replicate m [j]).flatten = List.replicate m j := by
  induction m with
  | zero => rfl
  | succ m ih => rw [List.replicate_succ, List.flatten_cons, ih]; rfl
theorem asc_perm (ws o : List Nat) : (rowTo ws o 4).Perm (ascOf ws o) := by
  unfold ascOf
  simp only [rowTo, flat_rep, List.append_nil]
  generalize List.replicate (ws.getD (o.getD 0 0) 0) 0 = a
  generalize List.replicate (ws.getD (o.getD 1 0) 0) 1 = b
  generalize List.replicate (ws.getD (o.getD 2 0) 0) 2 = c
  generalize List.replicate (ws.getD (o.getD 3 0) 0) 3 = d
  have h1 : (d ++ (c ++ (b ++ a))).Perm ((c ++ (b ++ a)) ++ d) := List.perm_append_comm
  have h2 : (c ++ (b ++ a)).Perm ((b ++ a) ++ c) := List.perm_append_comm
  have h3 : (b ++ a).Perm (a ++ b) := List.perm_append_comm
  have h4 := h1.trans ((h2.trans (h3.append_right c)).append_right d)
  simpa [List.append_assoc] using h4
theorem asc_rises (ws o : List Nat) : (ascOf ws o).Pairwise (· ≤ ·) := by
  unfold ascOf
  simp only [List.pairwise_append, List.pairwise_replicate, List.mem_append, List.mem_replicate]
  refine ⟨by simp, ⟨by simp, ⟨by simp, by simp, ?_⟩, ?_⟩, ?_⟩ <;> intros <;> omega
def whole (ws : List Nat) : Nat := ws.sum
def lowP (ws o : List Nat) : Nat := if whole ws % 2 = 1 then (ascOf ws o).getD (whole ws / 2) 0 else (ascOf ws o).getD (whole ws / 2 - 1) 0
def highP (ws o : List Nat) : Nat := (ascOf ws o).getD (whole ws / 2) 0
theorem row_medians {ws o : List Nat} (h : (ascOf ws o).length = whole ws) (h13 : whole ws < 13) : medLowN (row2 (rowTo ws o 4)) = lowP ws o ∧ medHighN (row2 (rowTo ws o 4)) = highP ws o ∧ (row2 (rowTo ws o 4)).length = whole ws := by
  have hl : (rowTo ws o 4).length = whole ws := (asc_perm ws o).length_eq.trans h
  have hp := (row2_perm (rowTo ws o 4) (by omega)).trans (asc_perm ws o)
  have hs := isortN_eq hp (asc_rises ws o)
  have hn : (row2 (rowTo ws o 4)).length = whole ws := hp.length_eq.trans h
  refine ⟨?_, ?_, hn⟩
  · unfold medLowN lowP; rw [hs, hn]
  · unfold medHighN highP; rw [hs, hn]
def bitN (c k : Nat) : Bool := decide (c / 2 ^ k &&& 1 ≠ 0)
def aheadOf (ws : List Nat) (c : Nat) : Nat := (((List.range 4).filter (bitN c)).map fun k => ws.getD k 0).sum
def cntOf (c : Nat) : Nat := ((List.range 4).filter (bitN c)).length
def lowAt (ws : List Nat) (c k : Nat) : List (List Nat) := if bitN c k = false ∧ 2 * aheadOf ws c < whole ws ∧ whole ws ≤ 2 * (aheadOf ws c + ws.getD k 0) then List.replicate ([6, 2, 2, 6].getD (cntOf c) 0) [k, cntOf c] else []
def highAt (ws : List Nat) (c k : Nat) : List (List Nat) := if bitN c k = false ∧ 2 * aheadOf ws c ≤ whole ws ∧ whole ws < 2 * (aheadOf ws c + ws.getD k 0) then List.replicate ([6, 2, 2, 6].getD (cntOf c) 0) [k, cntOf c] else []
def dueOf (g : Nat → Nat → List (List Nat)) (i : Nat) : List (List Nat) := (List.range i).flatMap fun c => (List.range 4).flatMap (g c)
def lowsP (ws : List Nat) (i : Nat) : List (List Nat) := if whole ws = 0 then [] else (ordersL.take i).map fun o => [o.getD (lowP ws o) 0, lowP ws o]
def highsP (ws : List Nat) (i : Nat) : List (List Nat) := if whole ws = 0 then [] else (ordersL.take i).map fun o => [o.getD (highP ws o) 0, highP ws o]
structure Fact02 (ws : List Nat) : Prop where
  len : ∀ o ∈ ordersL, (ascOf ws o).length = whole ws
  low : 0 < whole ws → ∀ o ∈ ordersL, lowP ws o < 4 ∧ highP ws o < 4
  lows : (lowsP ws 24).Perm (dueOf (lowAt ws) 16)
  highs : (highsP ws 24).Perm (dueOf (highAt ws) 16)
/-! no need to try all weights: who stands ahead of whom, once for all -/
def maskOf (l : List Nat) : Nat := (l.map fun p => 2 ^ p).sum
def pairs1 : List (Nat × Nat) := ordersL.flatMap fun o => [(maskOf [], o.getD 0 0), (maskOf [o.getD 0 0], o.getD 1 0), (maskOf [o.getD 0 0, o.getD 1 0], o.getD 2 0), (maskOf [o.getD 0 0, o.getD 1 0, o.getD 2 0], o.getD 3 0)]
def pairs2 : List (Nat × Nat) := (List.range 16).flatMap fun c => (List.range 4).flatMap fun k => if bitN c k = false then List.replicate ([6, 2, 2, 6].getD (cntOf c) 0) (c, k) else []
set_option maxRecDepth 100000 in
theorem pairs_perm : pairs1.isPerm pairs2 = true := by decide +kernel
theorem ahead_perm : ∀ o ∈ ordersL, (((List.range 4).filter (bitN (maskOf []))).isPerm [] && ((List.range 4).filter (bitN (maskOf [o.getD 0 0]))).isPerm [o.getD 0 0] && ((List.range 4).filter (bitN (maskOf [o.getD 0 0, o.getD 1 0]))).isPerm [o.getD 0 0, o.getD 1 0] &&
    ((List.range 4).filter (bitN (maskOf [o.getD 0 0, o.getD 1 0, o.getD 2 0]))).isPerm [o.getD 0 0, o.getD 1 0, o.getD 2 0] && (List.range 4).isPerm [o.getD 0 0, o.getD 1 0, o.getD 2 0, o.getD 3 0]) = true := by decide +kernel
theorem sum_perm : ∀ {l r : List Nat}, l.Perm r → l.sum = r.sum := fun h => by
  induction h with
  | nil => rfl
  | cons a _ ih => rw [List.sum_cons, List.sum_cons, ih]
  | swap a b l => simp only [List.sum_cons]; omega
  | trans _ _ h1 h2 => exact h1.trans h2
theorem ahead_eq {ws l : List Nat} {c : Nat} (h : ((List.range 4).filter (bitN c)).isPerm l = true) : aheadOf ws c = (l.map fun k => ws.getD k 0).sum ∧ cntOf c = l.length := by
  have hp := List.isPerm_iff.mp h
  exact ⟨sum_perm (hp.map _), hp.length_eq⟩
theorem asc_get (x y z u i : Nat) (h : i < x + y + z + u) : (List.replicate x 0 ++ (List.replicate y 1 ++ (List.replicate z 2 ++ List.replicate u 3))).getD i 0 = if i < x then 0 else if i < x + y then 1 else if i < x + y + z then 2 else 3 := by
  simp only [List.getD_eq_getElem?_getD, List.getElem?_append, List.length_replicate, List.getElem?_replicate]
  by_cases h1 : i < x
  · simp [h1]
  · by_cases h2 : i < x + y
    · have : i - x < y := by omega
      simp [h1, h2, this]
    · by_cases h3 : i < x + y + z
      · have a1 : ¬ i - x < y := by omega
        have a2 : i - x - y < z := by omega
        simp [h1, h2, h3, a1, a2]
      · have a1 : ¬ i - x < y := by omega
        have a2 : ¬ i - x - y < z := by omega
        have a3 : i - x - y - z < u := by omega
        simp [h1, h2, h3, a1, a2, a3]
theorem low_one {β : Type} (h : Nat → β) {x y z u W p : Nat} (hW : W = x + y + z + u) (h0 : 0 < W) (hp : p = if W % 2 = 1 then (if W / 2 < x then 0 else if W / 2 < x + y then 1 else if W / 2 < x + y + z then 2 else 3) else (if W / 2 - 1 < x then 0 else if W / 2 - 1 < x + y then 1 else if W / 2 - 1 < x + y + z then 2 else 3)) :
    [h p] = (if 2 * 0 < W ∧ W ≤ 2 * (0 + x) then [h 0] else []) ++ ((if 2 * x < W ∧ W ≤ 2 * (x + y) then [h 1] else []) ++ ((if 2 * (x + y) < W ∧ W ≤ 2 * (x + y + z) then [h 2] else []) ++ (if 2 * (x + y + z) < W ∧ W ≤ 2 * (x + y + z + u) then [h 3] else []))) := by
  have hcase : (p = 0 ∧ 2 * 0 < W ∧ W ≤ 2 * (0 + x)) ∨ (p = 1 ∧ 2 * x < W ∧ W ≤ 2 * (x + y)) ∨ (p = 2 ∧ 2 * (x + y) < W ∧ W ≤ 2 * (x + y + z)) ∨ (p = 3 ∧ 2 * (x + y + z) < W ∧ W ≤ 2 * (x + y + z + u)) := by
    subst hp
    split <;> repeat' split
    all_goals omega
  rcases hcase with ⟨rfl, h1, h2⟩ | ⟨rfl, h1, h2⟩ | ⟨rfl, h1, h2⟩ | ⟨rfl, h1, h2⟩
  · rw [if_pos ⟨h1, h2⟩, if_neg (by omega), if_neg (by omega), if_neg (by omega)]; rfl
  · rw [if_neg (by omega), if_pos ⟨h1, h2⟩, if_neg (by omega), if_neg (by omega)]; rfl
  · rw [if_neg (by omega), if_neg (by omega), if_pos ⟨h1, h2⟩, if_neg (by omega)]; rfl
  · rw [if_neg (by omega), if_neg (by omega), if_neg (by omega), if_pos ⟨h1, h2⟩]; rfl
theorem high_one {β : Type} (h : Nat → β) {x y z u W p : Nat} (hW : W = x + y + z + u) (h0 : 0 < W) (hp : p = (if W / 2 < x then 0 else if W / 2 < x + y then 1 else if W / 2 < x + y + z then 2 else 3)) :
    [h p] = (if 2 * 0 ≤ W ∧ W < 2 * (0 + x) then [h 0] else []) ++ ((if 2 * x ≤ W ∧ W < 2 * (x + y) then [h 1] else []) ++ ((if 2 * (x + y) ≤ W ∧ W < 2 * (x + y + z) then [h 2] else []) ++ (if 2 * (x + y + z) ≤ W ∧ W < 2 * (x + y + z + u) then [h 3] else []))) := by
  have hcase : (p = 0 ∧ 2 * 0 ≤ W ∧ W < 2 * (0 + x)) ∨ (p = 1 ∧ 2 * x ≤ W ∧ W < 2 * (x + y)) ∨ (p = 2 ∧ 2 * (x + y) ≤ W ∧ W < 2 * (x + y + z)) ∨ (p = 3 ∧ 2 * (x + y + z) ≤ W ∧ W < 2 * (x + y + z + u)) := by
    subst hp
    repeat' split
    all_goals omega
  rcases hcase with ⟨rfl, h1, h2⟩ | ⟨rfl, h1, h2⟩ | ⟨rfl, h1, h2⟩ | ⟨rfl, h1, h2⟩
  · rw [if_pos ⟨h1, h2⟩, if_neg (by omega), if_neg (by omega), if_neg (by omega)]; rfl
  · rw [if_neg (by omega), if_pos ⟨h1, h2⟩, if_neg (by omega), if_neg (by omega)]; rfl
  · rw [if_neg (by omega), if_neg (by omega), if_pos ⟨h1, h2⟩, if_neg (by omega)]; rfl
  · rw [if_neg (by omega), if_neg (by omega), if_neg (by omega), if_pos ⟨h1, h2⟩]; rfl
def gLow (ws : List Nat) (p : Nat × Nat) : List (List Nat) := if 2 * aheadOf ws p.1 < whole ws ∧ whole ws ≤ 2 * (aheadOf ws p.1 + ws.getD p.2 0) then [[p.2, cntOf p.1]] else []
def gHigh (ws : List Nat) (p : Nat × Nat) : List (List Nat) := if 2 * aheadOf ws p.1 ≤ whole ws ∧ whole ws < 2 * (aheadOf ws p.1 + ws.getD p.2 0) then [[p.2, cntOf p.1]] else []
theorem rep_flat {α β : Type} (g : α → List β) (x : α) (m : Nat) {y : β} (h : g x = [y]) : (List.replicate m x).flatMap g = List.replicate m y := by
  induction m with
  | zero => rfl
  | succ m ih => rw [List.replicate_succ, List.flatMap_cons, ih, h]; rfl
theorem rep_flat0 {α β : Type} (g : α → List β) (x : α) (m : Nat) (h : g x = []) : (List.replicate m x).flatMap g = [] := by
  induction m with
  | zero => rfl
  | succ m ih => rw [List.replicate_succ, List.flatMap_cons, ih, h]; rfl
theorem lowAt_eq (ws : List Nat) (c k : Nat) : lowAt ws c k = (if bitN c k = false then List.replicate ([6, 2, 2, 6].getD (cntOf c) 0) (c, k) else []).flatMap (gLow ws) := by
  unfold lowAt
  by_cases hb : bitN c k = false
  · rw [if_pos hb]
    by_cases hc : 2 * aheadOf ws c < whole ws ∧ whole ws ≤ 2 * (aheadOf ws c + ws.getD k 0)
    · rw [if_pos ⟨hb, hc⟩, rep_flat (gLow ws) (c, k) _ (y := [k, cntOf c]) (by unfold gLow; rw [if_pos hc])]
    · rw [if_neg (fun h => hc h.2), rep_flat0 (gLow ws) (c, k) _ (by unfold gLow; rw [if_neg hc])]
  · rw [if_neg hb, if_neg fun h => hb h.1]; rfl
theorem highAt_eq (ws : List Nat) (c k : Nat) : highAt ws c k = (if bitN c k = false then List.replicate ([6, 2, 2, 6].getD (cntOf c) 0) (c, k) else []).flatMap (gHigh ws) := by
  unfold highAt
  by_cases hb : bitN c k = false
  · rw [if_pos hb]
    by_cases hc : 2 * aheadOf ws c ≤ whole ws ∧ whole ws < 2 * (aheadOf ws c + ws.getD k 0)
    · rw [if_pos ⟨hb, hc⟩, rep_flat (gHigh ws) (c, k) _ (y := [k, cntOf c]) (by unfold gHigh; rw [if_pos hc])]
    · rw [if_neg (fun h => hc h.2), rep_flat0 (gHigh ws) (c, k) _ (by unfold gHigh; rw [if_neg hc])]
  · rw [if_neg hb, if_neg fun h => hb h.1]; rfl
theorem due_low_eq (ws : List Nat) : dueOf (lowAt ws) 16 = pairs2.flatMap (gLow ws) := by
  unfold dueOf pairs2
  rw [List.flatMap_assoc]
  congr 1; funext c
  rw [List.flatMap_assoc]
  congr 1; funext k
  exact lowAt_eq ws c k
theorem due_high_eq (ws : List Nat) : dueOf (highAt ws) 16 = pairs2.flatMap (gHigh ws) := by
  unfold dueOf pairs2
  rw [List.flatMap_assoc]
  congr 1; funext c
  rw [List.flatMap_assoc]
  congr 1; funext k
  exact highAt_eq ws c k
theorem map_flat {α β : Type} {f : α → β} {g : α → List β} : ∀ {l : List α}, (∀ x ∈ l, [f x] = g x) → l.map f = l.flatMap g
  | [], _ => rfl
  | a :: l, h => by
    rw [List.map_cons, List.flatMap_cons, ← h a List.mem_cons_self, map_flat fun x hx => h x (List.mem_cons_of_mem _ hx)]; rfl
theorem getD_le_sum : ∀ (l : List Nat) (k : Nat), l.getD k 0 ≤ l.sum
  | [], _ => by simp
  | a :: l, 0 => by simp
  | a :: l, k + 1 => by
    have := getD_le_sum l k
    simp only [List.getD_cons_succ, List.sum_cons]
    omega
/-- what is known of an order's weights -/
theorem order_facts {ws o : List Nat} (hw : ws.length = 4) (ho : o ∈ ordersL) :
    whole ws = ws.getD (o.getD 0 0) 0 + ws.getD (o.getD 1 0) 0 + ws.getD (o.getD 2 0) 0 + ws.getD (o.getD 3 0) 0 ∧
    (aheadOf ws (maskOf []) = 0 ∧ cntOf (maskOf []) = 0) ∧ (aheadOf ws (maskOf [o.getD 0 0]) = ws.getD (o.getD 0 0) 0 ∧ cntOf (maskOf [o.getD 0 0]) = 1) ∧
    (aheadOf ws (maskOf [o.getD 0 0, o.getD 1 0]) = ws.getD (o.getD 0 0) 0 + ws.getD (o.getD 1 0) 0 ∧ cntOf (maskOf [o.getD 0 0, o.getD 1 0]) = 2) ∧
    (aheadOf ws (maskOf [o.getD 0 0, o.getD 1 0, o.getD 2 0]) = ws.getD (o.getD 0 0) 0 + ws.getD (o.getD 1 0) 0 + ws.getD (o.getD 2 0) 0 ∧ cntOf (maskOf [o.getD 0 0, o.getD 1 0, o.getD 2 0]) = 3) := by
  have h := ahead_perm o ho
  simp only [Bool.and_eq_true] at h
  obtain ⟨⟨⟨⟨h0, h1⟩, h2⟩, h3⟩, h4⟩ := h
  have e0 := ahead_eq (ws := ws) h0
  have e1 := ahead_eq (ws := ws) h1
  have e2 := ahead_eq (ws := ws) h2
  have e3 := ahead_eq (ws := ws) h3
  have e4 := sum_perm ((List.isPerm_iff.mp h4).map fun k => ws.getD k 0)
  rw [← hw, map_getD_range] at e4
  simp only [List.map_cons, List.map_nil, List.sum_cons, List.sum_nil, List.length_cons, List.length_nil] at e0 e1 e2 e3 e4
  refine ⟨?_, ⟨e0.1, e0.2⟩, ⟨?_, e1.2⟩, ⟨?_, e2.2⟩, ⟨?_, e3.2⟩⟩
  · show ws.sum = _
    omega
  · omega
  · omega
  · omega
theorem fact02 {a b c d : Nat} : Fact02 [a, b, c, d] := by
  generalize hws : [a, b, c, d] = ws
  have hw : ws.length = 4 := by rw [← hws]; rfl
  have hlen : ∀ o ∈ ordersL, (ascOf ws o).length = whole ws := fun o ho => by
    have h := (order_facts hw ho).1
    unfold ascOf
    simp only [List.length_append, List.length_replicate]
    omega
  have hlow : ∀ o ∈ ordersL, 0 < whole ws → lowP ws o = if whole ws % 2 = 1 then (if whole ws / 2 < ws.getD (o.getD 0 0) 0 then 0 else if whole ws / 2 < ws.getD (o.getD 0 0) 0 + ws.getD (o.getD 1 0) 0 then 1 else if whole ws / 2 < ws.getD (o.getD 0 0) 0 + ws.getD (o.getD 1 0) 0 + ws.getD (o.getD 2 0) 0 then 2 else 3)
      else (if whole ws / 2 - 1 < ws.getD (o.getD 0 0) 0 then 0 else if whole ws / 2 - 1 < ws.getD (o.getD 0 0) 0 + ws.getD (o.getD 1 0) 0 then 1 else if whole ws / 2 - 1 < ws.getD (o.getD 0 0) 0 + ws.getD (o.getD 1 0) 0 + ws.getD (o.getD 2 0) 0 then 2 else 3) := fun o ho h0 => by
    have h := (order_facts hw ho).1
    unfold lowP ascOf
    rw [asc_get _ _ _ _ _ (by omega), asc_get _ _ _ _ _ (by omega)]
  have hhigh : ∀ o ∈ ordersL, 0 < whole ws → highP ws o = if whole ws / 2 < ws.getD (o.getD 0 0) 0 then 0 else if whole ws / 2 < ws.getD (o.getD 0 0) 0 + ws.getD (o.getD 1 0) 0 then 1 else if whole ws / 2 < ws.getD (o.getD 0 0) 0 + ws.getD (o.getD 1 0) 0 + ws.getD (o.getD 2 0) 0 then 2 else 3 := fun o ho h0 => by
    have h := (order_facts hw ho).1
    unfold highP ascOf
    rw [asc_get _ _ _ _ _ (by omega)]
  refine ⟨hlen, fun h0 o ho => ⟨?_, ?_⟩, ?_, ?_⟩
  · rw [hlow o ho h0]
    repeat' split
    all_goals decide
  · rw [hhigh o ho h0]
    repeat' split
    all_goals decide
  · rw [due_low_eq]
    refine List.Perm.trans ?_ ((List.isPerm_iff.mp pairs_perm).flatMap_right (gLow ws))
    by_cases h0 : whole ws = 0
    · rw [lowsP, if_pos h0]
      have : pairs1.flatMap (gLow ws) = [] := List.flatMap_eq_nil_iff.mpr fun p _ => by
        unfold gLow
        rw [if_neg (by omega)]
      rw [this]
    · rw [lowsP, if_neg h0]
      refine List.Perm.of_eq ?_
      unfold pairs1
      rw [List.flatMap_assoc]
      refine map_flat (l := ordersL) fun o ho => ?_
      obtain ⟨hW, ⟨a0, n0⟩, ⟨a1, n1⟩, ⟨a2, n2⟩, ⟨a3, n3⟩⟩ := order_facts hw ho
      rw [low_one (fun j => [o.getD j 0, j]) hW (by omega) (hlow o ho (by omega))]
      simp only [List.flatMap_cons, List.flatMap_nil, List.append_nil, gLow, a0, a1, a2, a3, n0, n1, n2, n3]
  · rw [due_high_eq]
    refine List.Perm.trans ?_ ((List.isPerm_iff.mp pairs_perm).flatMap_right (gHigh ws))
    by_cases h0 : whole ws = 0
    · rw [highsP, if_pos h0]
      have : pairs1.flatMap (gHigh ws) = [] := List.flatMap_eq_nil_iff.mpr fun p _ => by
        unfold gHigh
        have h1 := getD_le_sum ws p.2
        have h2 : ws.sum = 0 := h0
        rw [if_neg (by omega)]
      rw [this]
    · rw [highsP, if_neg h0]
      refine List.Perm.of_eq ?_
      unfold pairs1
      rw [List.flatMap_assoc]
      refine map_flat (l := ordersL) fun o ho => ?_
      obtain ⟨hW, ⟨a0, n0⟩, ⟨a1, n1⟩, ⟨a2, n2⟩, ⟨a3, n3⟩⟩ := order_facts hw ho
      rw [high_one (fun j => [o.getD j 0, j]) hW (by omega) (hhigh o ho (by omega))]
      simp only [List.flatMap_cons, List.flatMap_nil, List.append_nil, gHigh, a0, a1, a2, a3, n0, n1, n2, n3]
end Mine
open PySem PySem.W PyProof.Rows
set_option Elab.async false
namespace Mine
set_option maxRecDepth 100000 in
set_option maxHeartbeats 8000000 in
open_top hd02 for PySem.Challenge.rw_rl0018_02
end Mine
open PySem PySem.W PyProof.Rows PySem.MeetsSeq PySem.SeqRoads2
set_option Elab.async false
set_option autoImplicit false
set_option linter.unusedVariables false
namespace Mine
def F02 : List (Str × Addr) := [("pretty_flags", 22), ("median_low", 42), ("median_high", 49), ("_law_name", 56), ("COMPILER_FLAG_NAMES", 15), ("_law_refused", 63)]
noncomputable def X02 (w : World) (mg mb : Str → Option Value) : Cx := ⟨PySem.Challenge.rw_rl0018_02.row.prog, w, mg, mb, hd02.heap_39 w.params, F02⟩

local macro_rules | `(tactic| walk_at "look") => `(tactic| (repeat (with_reducible first | exact upd_eq | refine (upd_ne (by decide +kernel)).trans ?_)))
local macro_rules | `(tactic| walk_at "nm") => `(tactic| exact Ev.name (by walk_at "look") (by decide +kernel))
local macro_rules | `(tactic| walk_at "dk") => `(tactic| decide +kernel)
local macro_rules | `(tactic| walk_at "wk") => `(tactic| (repeat (first | exact Wk.nil | refine Wk.upd (by walk_at "look") (VImp.refl _) ?_)))

section
variable {w : World} {mg mb : Str → Option Value} {n : Nat}
set_option maxRecDepth 100000 in
set_option maxHeartbeats 4000000 in
theorem fn_medLow {l : List Int} (h0 : 0 < l.length) (hlen : l.length < 64) : Fn (X02 w mg mb) (n + 1) (.ref 42) [lV iV l] (iV (medLow l)) := by
  refine fn_defG (x := "data") (own := ["data", "n"]) (o := _) (fd := _) (body := _) rfl rfl rfl rfl rfl rfl ?_ (fun v => rfl) (by decide +kernel) (by decide +kernel) ?_
  · intro h hK
    exact ⟨41, _, _, _, rfl, hK 41 _ rfl, rfl, rfl⟩
  · intro F s S
    have hl := isort_length l
    refine go_assign S (Ev.sorted (by walk_at "nm") hlen rfl rfl) (by decide +kernel) (by decide +kernel) rfl fun s' S => ?_
    refine go_assign S (Ev.len (by walk_at "nm") (by omega) rfl rfl) (by decide +kernel) (by decide +kernel) rfl fun s' S => ?_
    refine go_if S (EvT.compare (by walk_at "nm") Ev.const_int cmp_eq) (fun hb => ?_) fun _ s' S => ?_
    · have := beq_iff_eq.mp hb
      omega
    refine go_nx ?_
    refine go_if S (EvT.compare (Ev.binop (by walk_at "nm") Ev.const_int (op_mod (by decide))) Ev.const_int cmp_eq) (fun hb s' S => ?_) fun hb s' S => ?_
    · refine go_return S (Ev.sub (x := medLow l) (by walk_at "nm") (Ev.binop (by walk_at "nm") Ev.const_int (op_fdiv (by decide) (by decide))) ?_ ?_ ?_ rfl) fun v s' hv S => ⟨v, rfl, hv, S.cst.kept⟩
      · omega
      · rw [hl] at hb
        rw [hl, show ((l.length : Int) / 2).toNat = l.length / 2 by omega]
        unfold medLow
        rw [if_pos hb]
        exact get_getD (by omega)
      · omega
    · refine go_return S (Ev.sub (x := medLow l) (by walk_at "nm") (Ev.binop (Ev.binop (by walk_at "nm") Ev.const_int (op_fdiv (by decide) (by decide))) Ev.const_int op_sub) ?_ ?_ ?_ rfl) fun v s' hv S => ⟨v, rfl, hv, S.cst.kept⟩
      · rw [hl] at hb ⊢
        have : ¬ ((l.length : Int) % 2 = 1) := fun h => by rw [h] at hb; cases hb
        omega
      · rw [hl] at hb
        have hb' : ¬ (((l.length : Int) % 2 == 1) = true) := by rw [hb]; decide
        have : ¬ ((l.length : Int) % 2 = 1) := fun h => by rw [h] at hb; cases hb
        rw [hl, show ((l.length : Int) / 2 - 1).toNat = l.length / 2 - 1 by omega]
        unfold medLow
        rw [if_neg hb']
        exact get_getD (by omega)
      · omega

set_option maxRecDepth 100000 in
set_option maxHeartbeats 4000000 in
theorem fn_medHigh {l : List Int} (h0 : 0 < l.length) (hlen : l.length < 64) : Fn (X02 w mg mb) (n + 1) (.ref 49) [lV iV l] (iV (medHigh l)) := by
  refine fn_defG (x := "data") (own := ["data", "n"]) (o := _) (fd := _) (body := _) rfl rfl rfl rfl rfl rfl ?_ (fun v => rfl) (by decide +kernel) (by decide +kernel) ?_
  · intro h hK
    exact ⟨48, _, _, _, rfl, hK 48 _ rfl, rfl, rfl⟩
  · intro F s S
    have hl := isort_length l
    refine go_assign S (Ev.sorted (by walk_at "nm") hlen rfl rfl) (by decide +kernel) (by decide +kernel) rfl fun s' S => ?_
    refine go_assign S (Ev.len (by walk_at "nm") (by omega) rfl rfl) (by decide +kernel) (by decide +kernel) rfl fun s' S => ?_
    refine go_if S (EvT.compare (by walk_at "nm") Ev.const_int cmp_eq) (fun hb => ?_) fun _ s' S => ?_
    · have := beq_iff_eq.mp hb
      omega
    refine go_nx ?_
    refine go_return S (Ev.sub (x := medHigh l) (by walk_at "nm") (Ev.binop (by walk_at "nm") Ev.const_int (op_fdiv (by decide) (by decide))) ?_ ?_ ?_ rfl) fun v s' hv S => ⟨v, rfl, hv, S.cst.kept⟩
    · omega
    · rw [hl, show ((l.length : Int) / 2).toNat = l.length / 2 by omega]
      exact get_getD (by omega)
    · omega

set_option maxRecDepth 100000 in
set_option maxHeartbeats 4000000 in
theorem fn_lawName {p : Int} (h0 : 0 ≤ p) (h1 : p < 32) : Fn (X02 w mg mb) (n + 1) (.ref 56) [iV p] (sV (lawName p)) := by
  refine fn_defG (x := "place") (own := ["place", "words"]) (o := _) (fd := _) (body := _) rfl rfl rfl rfl rfl rfl ?_ (fun v => rfl) (by decide +kernel) (by decide +kernel) ?_
  · intro h hK
    exact ⟨55, _, _, _, rfl, hK 55 _ rfl, rfl, rfl⟩
  · intro F s S
    refine go_assign S (V := lV sV words8) ?h1 (by decide +kernel) (by decide +kernel) rfl fun s' S => ?_
    case h1 =>
      refine Ev.list ?_ (Nat.le_of_ble_eq_true rfl)
      repeat first | exact Paired.nil | refine Paired.cons (And.intro rfl Ev.const_str) ?_
    refine go_assign S (V := lV sV (words8 ++ words2)) ?h2 (by decide +kernel) (by decide +kernel) rfl fun s' S => ?_
    case h2 =>
      refine Ev.binop (by walk_at "nm") (Ev.list (l := words2) ?_ (Nat.le_of_ble_eq_true rfl)) (op_addL (Nat.le_of_ble_eq_true rfl))
      repeat first | exact Paired.nil | refine Paired.cons (And.intro rfl Ev.const_str) ?_
    refine go_return S (Ev.ifexp (EvT.compare (by walk_at "nm") Ev.const_int cmp_lt) (fun hb => ?_) fun hb => ?_) fun v s' hv S => ⟨v, rfl, hv, S.cst.kept⟩
    · have hlt := of_decide_eq_true hb
      refine Ev.sub (l := words8 ++ words2) (x := lawName p) (by walk_at "nm") (by walk_at "nm") h0 ?_ (by decide) rfl
      unfold lawName
      rw [if_pos hlt]
      have : p.toNat < lawWords.length := by rw [lawWords_length]; omega
      show lawWords[p.toNat]? = _
      simp [this]
    · have hlt := of_decide_eq_false hb
      have e : lawName p = (Str.ofString "0x" ++ ⟨#[(Str.ofString "1248").cps.getD (p % 4).toNat 0]⟩) ++ Txt.mul (Str.ofString "0") (p / 4) := by unfold lawName; rw [if_neg hlt]
      rw [e]
      refine Ev.binop (Ev.binop Ev.const_str (Ev.subS (c := (Str.ofString "1248").cps.getD (p % 4).toNat 0) Ev.const_str (Ev.binop (by walk_at "nm") Ev.const_int (op_mod (by decide))) (by omega) ?_ rfl (by decide +kernel)) (op_addS ?_))
        (Ev.binop Ev.const_str (Ev.binop (by walk_at "nm") Ev.const_int (op_fdiv (by decide) (by decide))) (op_mulS (by omega) (by omega) (by decide +kernel))) (op_addS ?_)
      · have h4 : (p % 4).toNat < 4 := by omega
        generalize (p % 4).toNat = k at h4
        revert h4; revert k; decide +kernel
      · show 2 + 1 ≤ 1000
        decide
      · have h8 : (p / 4).toNat < 8 := by omega
        have h := mulS_len ⟨(p / 4).toNat, h8⟩
        rw [show (((⟨(p / 4).toNat, h8⟩ : Fin 8).val : Nat) : Int) = p / 4 by show (((p / 4).toNat : Nat) : Int) = _; omega] at h
        rw [h, Str.length_append]
        show (2 + 1) + (p / 4).toNat ≤ 1000
        omega
end
end Mine
open PySem PySem.W PyProof.Rows PySem.MeetsSeq PySem.SeqRoads2
set_option Elab.async false
set_option autoImplicit false
set_option linter.unusedVariables false
namespace Mine
local macro_rules | `(tactic| walk_at "look") => `(tactic| (repeat (with_reducible first | exact upd_eq | refine (upd_ne (by decide +kernel)).trans ?_)))
local macro_rules | `(tactic| walk_at "nm") => `(tactic| exact Ev.name (by walk_at "look") (by decide +kernel))
local macro_rules | `(tactic| walk_at "dk") => `(tactic| decide +kernel)
local macro_rules | `(tactic| walk_at "wk") => `(tactic| (repeat (first | exact Wk.nil | refine Wk.upd (by walk_at "look") (VImp.refl _) ?_)))
/-- the module's table of names -/
def flagTab : List (PyData × PyData) := [(.int 1, .str "OPTIMIZED"), (.int 2, .str "NEWLOCALS"), (.int 4, .str "VARARGS"), (.int 8, .str "VARKEYWORDS"), (.int 16, .str "NESTED"), (.int 32, .str "GENERATOR"), (.int 64, .str "NOFREE"), (.int 128, .str "COROUTINE"), (.int 256, .str "ITERABLE_COROUTINE"), (.int 512, .str "ASYNC_GENERATOR")]
def isStrD (d : PyData) (y : Str) : Bool := match d with
  | .str x => x == y
  | _ => false
theorem isStrD_eq {d : PyData} {y : Str} (h : isStrD d y = true) : d = .str y := by
  unfold isStrD at h
  split at h
  · rw [beq_iff_eq.mp h]
  · cases h
theorem flagTab_all : ∀ i : _root_.Fin 32, isStrD ((Spec.lookup (.int ((2 ^ i.val : Nat) : Int)) flagTab).getD (.str (baseText "0x" 16 ((2 ^ i.val : Nat) : Int)))) (lawName (i.val : Int)) = true := by decide +kernel
theorem hex_len : ∀ i : _root_.Fin 32, (baseText "0x" 16 ((2 ^ i.val : Nat) : Int)).length ≤ 1000 := by decide +kernel
theorem flagTab_get {i : Nat} (h : i < 32) : (Spec.lookup (.int ((2 ^ i : Nat) : Int)) flagTab).getD (.str (baseText "0x" 16 ((2 ^ i : Nat) : Int))) = .str (lawName (i : Int)) := isStrD_eq (flagTab_all ⟨i, h⟩)
section
variable {w : World} {mg mb : Str → Option Value} {n : Nat}
theorem tab_lit {prog : Program} {w : World} {h : Heap} {a : Addr} {D : List (PyData × PyData)} {es : List DictEntry} {k : Nat} (ho : h.get? a = some { cls := .type "dict", data := .dict es.toArray k }) (hes : entriesAreInt es D = true) (hap : keysApartInt D = true) (ha : (a == sysModules) = false) :
    IntTab prog w h a D := by
  obtain ⟨kvs, p, f, ks⟩ := entries_spec (prog := prog) (w := w) hes
  exact ⟨ha, kvs, ⟨_, _, _, ho, ⟨rfl, rfl, rfl⟩, rfl, fun e he => ks e (by simpa using he), p, nodup_of_apart f hap⟩, f⟩
set_option maxRecDepth 100000 in
theorem flagTab_at : ∀ h, (X02 w mg mb).K.In h → IntTab (X02 w mg mb).prog (X02 w mg mb).w h 15 flagTab := fun h hK => tab_lit (hK 15 _ rfl) (by decide +kernel) (by decide +kernel) rfl
end
end Mine
open PySem PySem.W PyProof.Rows PySem.MeetsSeq PySem.SeqRoads2
set_option Elab.async false
set_option autoImplicit false
set_option linter.unusedVariables false
namespace Mine
local macro_rules | `(tactic| walk_at "look") => `(tactic| (repeat (with_reducible first | exact upd_eq | refine (upd_ne (by decide +kernel)).trans ?_)))
local macro_rules | `(tactic| walk_at "nm") => `(tactic| exact Ev.name (by walk_at "look") (by decide +kernel))
local macro_rules | `(tactic| walk_at "wk") => `(tactic| (repeat (first | exact Wk.nil | refine Wk.upd (by walk_at "look") (VImp.refl _) ?_)))
theorem strs_sum : ∀ l : List Str, (∀ x ∈ l, x.length ≤ 18) → (l.map (·.length)).sum ≤ 18 * l.length
  | [], _ => by simp
  | a :: l, h => by
    have h1 := strs_sum l fun x hx => h x (List.mem_cons_of_mem _ hx)
    have h2 := h a List.mem_cons_self
    simp only [List.map_cons, List.sum_cons, List.length_cons]
    omega
theorem flagsUpto_small {m : Nat} : ∀ x ∈ flagsUpto m 32, x.length ≤ 18 := by
  intro x hx
  unfold flagsUpto at hx
  obtain ⟨i, hi, rfl⟩ := List.mem_map.mp hx
  have h32 : i < 32 := by
    have := (List.mem_filter.mp hi).1
    simpa using this
  exact (lawName_all ⟨i, h32⟩).1
theorem hex_zero : baseText "0x" 16 0 = Str.ofString "0x0" := by decide +kernel
section
variable {w : World} {mg mb : Str → Option Value} {n : Nat}
set_option maxRecDepth 100000 in
set_option maxHeartbeats 4000000 in
theorem fn_pretty {m : Nat} (hm : m < 2 ^ 32) : Fn (X02 w mg mb) (n + 1) (.ref 22) [iV (m : Int)] (sV (pretty m)) := by
  refine fn_defG (x := "flags") (own := ["flags", "names", "i", "flag"]) (o := _) (fd := _) (body := _) rfl rfl rfl rfl rfl rfl ?_ (fun v => rfl) (by decide +kernel) (by decide +kernel) ?_
  · intro h hK
    exact ⟨21, _, _, _, rfl, hK 21 _ rfl, rfl, rfl⟩
  · intro F s S
    refine go_own (K := sV) (l := []) S .nil (Nat.zero_le _) (by decide +kernel) (by decide +kernel) fun D s₁ hD S => ?_
    have hm0 : hi m 0 ≠ 0 ∨ m = 0 := by rw [hi_zero]; omega
    have S : FS F (D :: F.N) [(D, listP sV (flagsUpto m 0))] (upd (upd rho0 "names" (refV D)) "flags" (gV (hi m 0 ≠ 0 ∨ m = 0) (iV (hi m 0 : Nat)))) s [] s₁ :=
      S.wk (Wk.upd (W := iV (m : Int)) (by walk_at "look") (by rw [hi_zero]; rw [hi_zero] at hm0; exact VImp.to hm0) (by walk_at "wk"))
    have fin : ∀ (l : List Str) (ρ' : Rho) (s' : Shared), ρ' "names" = some (refV D) → l = flagNames m → FS F (D :: F.N) [(D, listP sV l)] ρ' s [] s' → FS F F.N [] (upd ρ' "names" (lV sV (flagNames m))) s [] s' := by
      intro l ρ' s' hn hl S
      have hDN : D ∉ F.N := fun h => by
        have h1 := S.cst.base₀.live D h
        have h2 := (S.mine _ List.mem_cons_self).2.1
        exact absurd h1 (Nat.not_lt.mpr h2)
      have S := S.release (x := "names") hn (by decide +kernel) (fun a ha => ha) (fun p hp => nomatch hp) hDN
      subst hl
      exact S
    have hfl : flagNames m = [Str.ofString "0x0"] ∨ flagNames m = flagsUpto m 32 := by
      unfold flagNames; split
      · exact .inl rfl
      · exact .inr rfl
    have hsz : ((flagNames m).map (·.length)).sum + (flagNames m).length ≤ 10000 := by
      rcases hfl with h | h
      · rw [h]; decide +kernel
      · rw [h]
        have h1 := strs_sum _ (flagsUpto_small (m := m))
        have h2 := flagsUpto_length m 32
        omega
    refine go_for (ωs := fun i => [(D, listP sV (flagsUpto m i))]) (ρs := fun i => upd (upd rho0 "names" (refV D)) "flags" (gV (hi m i ≠ 0 ∨ m = 0) (iV (hi m i : Nat))))
      (Pb := fun ω' ρ' => ω' = [(D, listP sV (flagsUpto m 32))] ∧ ρ' = upd rho0 "names" (refV D) ∧ m ≠ 0) (K := iV) (xs := intsFrom 0 32) (V := rV 0 32) S ?hiter ?hitr (by decide +kernel) (by decide +kernel) ?hw ?hpb ?hbody ?hend ?hbrk
    case hiter => exact Ev.range1 Ev.const_int rfl rfl
    case hitr => exact itr_range (m := 32) (by decide) (by decide)
    case hw => intro i p hp; exact List.mem_map.mpr ⟨_, List.mem_cons_self, by rw [List.mem_singleton.mp hp]⟩
    case hpb => rintro ω' ρ' ⟨rfl, _⟩ p hp; exact List.mem_map.mpr ⟨_, List.mem_cons_self, by rw [List.mem_singleton.mp hp]⟩
    case hbody =>
      intro i a I si s' E' ha S
      have hi32 : i < 32 := by
        have := (List.getElem?_eq_some_iff.mp ha).1
        rwa [intsFrom_length] at this
      rw [intsFrom_get hi32] at ha
      have ha : a = (i : Int) := by cases ha; omega
      subst ha
      refine go_assign (V := iV ((2 ^ i : Nat) : Int)) S ((Ev.binop Ev.const_int (by walk_at "nm") (op_lshift (by omega) (by omega) (by decide))).cast ?_) (by decide +kernel) (by decide +kernel) rfl fun s₂ S => ?_
      · refine iV_eq ?_
        simp
      refine go_if S (EvT.int (i := ((hi m i &&& 2 ^ i : Nat) : Int)) ((Ev.binop ((Ev.name (V := gV _ (iV _)) (by walk_at "look") (by decide +kernel)).imp VImp.of) (by walk_at "nm") op_and).cast (iV_eq (bitAnd_nat _ _)))) (fun hb s₃ S => ?_) fun hb s₃ S => ?_
      · have hbit : m / 2 ^ i % 2 = 1 := by
          rw [hi_and] at hb
          rcases Nat.mod_two_eq_zero_or_one (m / 2 ^ i) with h | h
          · rw [h] at hb; simp at hb
          · exact h
        have htb : m.testBit i = true := by rw [testBit_dm, hbit]; rfl
        have hup : flagsUpto m i ++ [lawName (i : Int)] = flagsUpto m (i + 1) := by rw [flagsUpto_succ, htb]; rfl
        refine go_append (y := lawName (i : Int)) S (by walk_at "look") (by decide +kernel) (Ev.meth (Vo := refV 15) (Vs := [iV ((2 ^ i : Nat) : Int), sV (baseText "0x" 16 ((2 ^ i : Nat) : Int))]) (Ev.gname (f := "COMPILER_FLAG_NAMES") (a := 15) (by show _ ∈ F02; decide +kernel) rfl rfl)
          (.cons ⟨rfl, by walk_at "nm"⟩ (.cons ⟨rfl, Ev.hex (by walk_at "nm") (hex_len ⟨i, hi32⟩) rfl rfl⟩ .nil)) (hasM_get flagTab_at) (fn_get flagTab_at (flagTab_get hi32))) rfl (Nat.le_trans (flagsUpto_length m i) (by omega)) (fun s₄ S => ?_) 
        rw [hup] at S
        refine go_aug (V := iV (hi m (i + 1) : Nat)) S (by walk_at "look") (by decide +kernel) (by walk_at "nm") ((op_ixor.of1 VImp.of).cast (iV_eq (by rw [bitXor_nat, hi_xor hbit]))) (by decide +kernel) (by decide +kernel) fun s₅ S => ?_
        refine go_if S (EvT.not (EvT.int (by walk_at "nm"))) (fun hb s₆ S => ?_) fun hb s₆ S => ?_
        · have hz : hi m (i + 1) = 0 := by simpa using hb
          have hm1 : m ≠ 0 := fun h => by subst h; simp at htb
          have e : flagsUpto m 32 = flagsUpto m (i + 1) := by
            have := flagsUpto_more hz (32 - (i + 1))
            rwa [show i + 1 + (32 - (i + 1)) = 32 by omega] at this
          refine go_break (.inr ⟨rfl, _, _, ⟨by rw [e], rfl, hm1⟩, S.wk (by walk_at "wk")⟩)
        · have hz : hi m (i + 1) ≠ 0 := by simpa using hb
          exact go_nx (go_nx (go_nil (.inl ⟨rfl, S.wk (Wk.upd (W := iV (hi m (i + 1) : Nat)) (by walk_at "look") (VImp.to (.inl hz)) (by walk_at "wk"))⟩)))
      · have hbit : m / 2 ^ i % 2 = 0 := by
          rw [hi_and] at hb
          rcases Nat.mod_two_eq_zero_or_one (m / 2 ^ i) with h | h
          · exact h
          · have h2 := Nat.two_pow_pos i
            rw [h, Nat.one_mul] at hb
            have h3 : ((2 ^ i : Nat) : Int) = 0 := by
              cases hc : (((2 ^ i : Nat) : Int) != 0) with
              | false => simpa using hc
              | true => rw [hc] at hb; cases hb
            omega
        have htb : m.testBit i = false := by rw [testBit_dm, hbit]; rfl
        have hup : flagsUpto m i = flagsUpto m (i + 1) := by rw [flagsUpto_succ, htb]; simp
        rw [hup, hi_same hbit] at S
        exact go_nx (go_nil (.inl ⟨rfl, S.wk (by walk_at "wk")⟩))
    case hend =>
      intro s' E' S
      have hlen : (intsFrom 0 32).length = 32 := intsFrom_length
      rw [hlen] at S
      have hz : hi m 32 = 0 := hi_end hm
      have hm1 : m = 0 := by
        rcases S.fact (x := "flags") (by walk_at "look") (by decide +kernel) with h | h
        · exact absurd hz h
        · exact h
      refine go_append (y := baseText "0x" 16 0) S (by walk_at "look") (by decide +kernel) (Ev.hex (i := 0) (((Ev.name (V := gV _ (iV _)) (by walk_at "look") (by decide +kernel)).imp VImp.of).cast (iV_eq (by rw [hz]; rfl))) (by decide +kernel) rfl rfl) rfl (Nat.le_trans (flagsUpto_length m 32) (by omega)) (fun s₄ S => ?_) 
      have S := fin _ _ _ (by walk_at "look") (by subst hm1; rw [hex_zero]; decide +kernel) S
      refine go_nx ?_
      exact go_return S (Ev.meth (V := sV (pretty m)) Ev.const_str (.cons ⟨rfl, by walk_at "nm"⟩ .nil) hasM_join (fn_join (l := flagNames m) (by decide +kernel) hsz)) fun v s'' hv S => ⟨v, rfl, hv, S.cst.kept⟩
    case hbrk =>
      rintro ω' ρ' s' ⟨rfl, rfl, hm1⟩ S
      have S := fin _ _ _ (by walk_at "look") (by unfold flagNames; rw [if_neg hm1]) S
      exact go_return S (Ev.meth (V := sV (pretty m)) Ev.const_str (.cons ⟨rfl, by walk_at "nm"⟩ .nil) hasM_join (fn_join (l := flagNames m) (by decide +kernel) hsz)) fun v s'' hv S => ⟨v, rfl, hv, S.cst.kept⟩
end
end Mine
open PySem PySem.W PyProof.Rows
set_option Elab.async false
namespace Mine
open PySem.Calls
/-- how the call of _law_refused ends -/
structure End02 (base : Heap) (s : Shared) (r : Result) (s' : Shared) : Prop where
  res : r = .ok (.ret (.bool true))
  keep : ∀ b o, base.get? b = some o → s'.heap.get? b = some o
  gens : s'.gens = s.gens
  os : s'.os = s.os
theorem callEnv_envOf (fd : FuncData) (L a : Addr) (h1 : fd.globals = mainGlobals) (h2 : fd.builtins = builtinsNs) (h3 : fd.closure = []) : callEnv fd L a = envOf fd.qualname fd.scope L a fd.code := by
  unfold callEnv envOf newEnv
  rw [h1, h2, h3]
set_option maxRecDepth 100000 in
set_option maxHeartbeats 8000000 in
theorem call_refused : ∀ (w : World) (s₀ : Shared) (mg mb : Str → Option Value) (base : Heap) (XB : (hd02.heap_39 w.params).In base) (TB : Top hd02.view_39 (looseW hd02.view_39 [Str.ofString "COMPILER_FLAG_NAMES"]) (ExcName.means s₀.heap) mg mb base)
    (lawEnv : Env) (s : Shared) (l L : Addr) (m : Str → Option Value), lawEnv.frame = some L → lawEnv.scope.kind = .function → Fr base L s.heap m → News base L s.heap [(l, listOf #[] 0)] →
    codeAny (model PySem.Challenge.rw_rl0018_02.row.prog w) (callerA.deeper lawEnv) (.call (.ref 63) ⟨[.ref l], []⟩) (End02 base s) s := by
  k_fill
  intro w s₀ mg mb base XB TB lawEnv s l L m hf hke F N
  have X := XB.keeps F.keep
  refine codeAny_call_def (fd := _) (body := _) (binds := [("row", .ref l)]) ?room (X 63 _ rfl) rfl (TB.nolimit.keeps F.keep) ?cr rfl ?hbind ?hcell ?hloc (fun h₁ hns hk₁ => ?_) rfl rfl rfl
  case room => show 1 + claimMargin + 1 < recursionLimit; decide
  case cr => exact ⟨62, _, _, _, rfl, X 62 _ rfl, rfl, rfl⟩
  case hbind => exact BindsTo.of_eq rfl
  case hcell => decide +kernel
  case hloc => intro y hy; rw [List.mem_singleton.mp hy]; rfl
  have hl := N (l, listOf #[] 0) List.mem_cons_self
  have st : base.StaysIn (hideAll s.heap [l]) := fun b o e => hideAll_get _ (F.keep b o e) fun hm => by
    rw [List.mem_singleton.mp hm, hl.2.2] at e; cases e
  obtain ⟨oL, es, ep, hL, hLd, hLk, hLf⟩ := F.ns
  have hLg : (hideAll s.heap [l]).get? L = some oL := hideAll_get _ hL fun hm => hl.2.1 (List.mem_singleton.mp hm).symm
  have F' : Fr (hideAll s.heap [l]) s.heap.objs.size h₁ (fun y => [(Str.ofString "row", Value.ref l)].reverse.lookup y) := ⟨hns, fun b o e => hk₁ b o (of_hideAll _ e), Nat.le_of_eq (hideAll_size _ _)⟩
  have N' : News (hideAll s.heap [l]) s.heap.objs.size h₁ [(l, listOf #[] 0)] := fun p hp => by
    rw [List.mem_singleton.mp hp]
    exact ⟨hk₁ _ _ hl.1, Nat.ne_of_lt (Heap.lt_size hl.1), hideAll_none _ List.mem_cons_self⟩
  have hLb : base.get? L = none := by
    cases q : base.get? L with
    | none => rfl
    | some o => exact absurd (Nat.lt_of_lt_of_le (Heap.lt_size q) F.above) (Nat.lt_irrefl _)
  have K0 : Below (callerA.deeper lawEnv) base [lawEnv] (hideAll s.heap [l]) := ⟨rfl, st, by rw [hke]; decide, ⟨L, oL, hf, hLb, hLg, fun vs e => by rw [hLd] at e; cases e⟩, trivial⟩
  have XG : (hd02.heap_39 w.params).In (hideAll s.heap [l]) := XB.keeps st
  have TG : Top hd02.view_39 (looseW hd02.view_39 [Str.ofString "COMPILER_FLAG_NAMES"]) (ExcName.means s₀.heap) mg mb (hideAll s.heap [l]) := TB.keeps st
  have D : KtsDicts ([lawEnv].filterMap (·.frame)) (hideAll s.heap [l]) := fun b hb => by
    have : b = L := by
      simp only [List.filterMap_cons, List.filterMap_nil, hf] at hb
      exact List.mem_singleton.mp hb
    subst this
    exact ⟨oL, es, ep, hLg, hLd⟩
  have T0 : KtsTurn ([lawEnv].filterMap (·.frame)) (hideAll s.heap [l]) (hideAll s.heap [l]) := KtsTurn.refl
  have hkeep : ∀ b o, base.get? b = some o → (hideAll s.heap [l]).get? b = some o := st
  clear hns hk₁ F N hL hl X hLk hLf hLg hLd hLb
  generalize hideAll s.heap [l] = g at *
  generalize s.heap.objs.size = L' at *
  have h0 : ({ s with heap := h₁, toks := s.toks + 1 } : Shared).heap = h₁ := rfl
  generalize hs : ({ s with heap := h₁, toks := s.toks + [(Str.ofString "row", Value.ref l)].length } : Shared) = s' at *
  obtain rfl : s'.heap = h₁ := by rw [← hs]
  have hgens : s'.gens = s.gens := by rw [← hs]
  have hos : s'.os = s.os := by rw [← hs]
  clear hs h0
  rw [callEnv_envOf _ _ _ rfl rfl rfl]
  dsimp only
  k_steps
  all_goals first
    | (exfalso; omega)
    | (rename Fr _ _ _ _ => kF; rename Below _ _ _ _ => kK; exact ⟨rfl, fun b o e => kF.keep b o (kK.stays b o e), hgens, hos⟩)
end Mine
open PySem PySem.W PyProof.Rows PySem.MeetsSeq PySem.SeqRoads2
set_option Elab.async false
set_option autoImplicit false
set_option linter.unusedVariables false
namespace Mine
local macro_rules | `(tactic| walk_at "look") => `(tactic| (repeat (with_reducible first | exact upd_eq | refine (upd_ne (by decide +kernel)).trans ?_)))
local macro_rules | `(tactic| walk_at "nm") => `(tactic| exact Ev.name (by walk_at "look") (by decide +kernel))
local macro_rules | `(tactic| walk_at "wk") => `(tactic| (repeat (first | exact Wk.nil | refine Wk.upd (by walk_at "look") (VImp.refl _) ?_)))
local macro_rules | `(tactic| walk_at "sz") => `(tactic| first | decide | (simp only [List.length_map, List.length_range, List.length_cons, List.length_nil]; decide) | (simp; done) | omega)
/-- a call of a def, from above -/
theorem call_defT {X : Cx} {n : Nat} {A : Around} {N : List Addr} {s : Shared} {v : Value} {E P : Value → Shared → Prop} {a : Addr} {o : Obj} {fd : FuncData} {body : List Stmt} {x : Str} {V : Val} {own : List Str} (ha : X.K.lookup a = some o) (hd : o.data = .func fd) (hbody : fd.body = .stmts body) (hclo : fd.closure = []) (hg : fd.globals = mainGlobals) (hb : fd.builtins = builtinsNs)
    (hcode : ∀ h, X.K.In h → h.CodeRec fd.code fd.qualname) (hbind : ∀ v, bindArgs fd ⟨[v], []⟩ = pure [(x, v)]) (hok : defOk fd.scope own = true) (hx : own.contains x = true) (B : Base X (n + 1) A N s) (hv : V.holds (vw N s.heap) v)
    (run : ∀ (F : Frm X n fd.scope own) (s₁ : Shared), F.s₀ = s → F.N = N → F.A = A.deeper F.env → F.env.frame = some F.env.locals → FS F F.N [] (upd rho0 x V) s₁ [] s₁ →
      Go F body (fun f s' => ∃ v, f = .ret v ∧ P v s') (fun _ _ => False) s₁) : wpAny X.M A (call (.ref a) [v]) P E s := by
  have ok := DefOk.of hok
  have hx' := mem_of hx
  refine wpAny_call (codeAny_call_cells (prog := X.prog) (w := X.w) ?_ (B.gd.frag a o ha) hd B.gd.lim (hcode _ B.gd.frag) hbody (hbind v) hclo ?_ (fun s₁ C => ?_) ok.co ok.gen ok.kind)
  · have := B.lev.depth; unfold recursionLimit; omega
  · intro p hp
    simp only [List.mem_cons, List.not_mem_nil, or_false] at hp
    subst hp
    rcases ok.own x hx' with hl | hl
    · exact .inl hl
    · refine .inr ⟨hl, ?_⟩
      obtain ⟨c, hc⟩ := cellsFrom_has fd.scope.names (s.heap.objs.size + 1) x (mem_lookup_kind hl)
      obtain ⟨c', hc'⟩ := lookup_some hc
      rw [hc']; rfl
  · refine wpAny_mono (run ⟨A.deeper (callEnvC fd s.heap.objs.size a), callEnvC fd s.heap.objs.size a, N, s⟩ s₁ rfl rfl rfl rfl (enter_def ok rfl hg hb hx' B hv C)).go (fun f s' hf => ?_) fun _ _ e => e.elim
    obtain ⟨r, rfl, hr⟩ := hf
    exact hr
end Mine
open PySem PySem.W PyProof.Rows PySem.MeetsSeq PySem.SeqRoads2
set_option Elab.async false
set_option autoImplicit false
set_option linter.unusedVariables false
namespace Mine
local macro_rules | `(tactic| walk_at "look") => `(tactic| (repeat (with_reducible first | exact upd_eq | refine (upd_ne (by decide +kernel)).trans ?_ | refine (hideL_ne (by decide +kernel)).trans ?_)))
local macro_rules | `(tactic| walk_at "nm") => `(tactic| exact Ev.name (by walk_at "look") (by decide +kernel))
local macro_rules | `(tactic| walk_at "wk") => `(tactic| (repeat (first | exact Wk.nil | refine Wk.upd (by walk_at "look") (VImp.refl _) ?_)))
local macro_rules | `(tactic| walk_at "sz") => `(tactic| first | decide | (simp only [List.length_map, List.length_range, List.length_cons, List.length_nil]; decide) | (simp; done) | omega)

def cell02 (ns : List Int) (k : Nat) : Int := [0, 6, 5, 3, 0].getD k 0 + (pick ns (some k) none (some 5)).sum
def p02 (c0 : Int) : Nat := (c0 % 8).toNat
def d02 (c0 : Int) : Nat := (1 + c0 / 8 % 7).toNat
theorem p02_lt (c0 : Int) : p02 c0 < 8 := by unfold p02; omega
theorem d02_lt (c0 : Int) : d02 c0 ≤ 7 ∧ 1 ≤ d02 c0 := by unfold d02; omega
theorem places02 (c0 : Int) : ∀ k, k < 4 → plc (p02 c0) (d02 c0) k < 32 := fun k hk => by
  have h1 := p02_lt c0
  have h2 := d02_lt c0
  unfold plc
  have : d02 c0 * k ≤ 7 * 3 := Nat.mul_le_mul h2.1 (by omega)
  omega
theorem idx_few : ∀ n j : _root_.Fin 5, (idx none (some (j.val : Int)) none n.val).length ≤ 5 ∧ (idx (some (j.val : Int)) none none n.val).length ≤ 5 := by decide +kernel
theorem idx_tail : idx (some 1) none none 5 = [1, 2, 3, 4] := by decide +kernel
theorem pick_tail (c0 c1 c2 c3 c4 : Int) : pick [c0, c1, c2, c3, c4] (some 1) none none = [c1, c2, c3, c4] := by
  show (idx (some 1) none none 5).filterMap ([c0, c1, c2, c3, c4][·]?) = _
  rw [idx_tail]; rfl
theorem pick_few {o : List Nat} {j : Nat} (ho : o.length < 5) (hj : j < 5) : (pick o none (some (j : Int)) none).length ≤ 5 ∧ (pick o (some (j : Int)) none none).length ≤ 5 :=
  ⟨Nat.le_trans (List.length_filterMap_le _ _) (idx_few ⟨o.length, ho⟩ ⟨j, hj⟩).1, Nat.le_trans (List.length_filterMap_le _ _) (idx_few ⟨o.length, ho⟩ ⟨j, hj⟩).2⟩
theorem take_flat_le {α β : Type} (g : α → List β) (l : List α) (m : Nat) : ((l.take m).flatMap g).length ≤ (l.flatMap g).length := by
  have h : l.flatMap g = (l.take m).flatMap g ++ (l.drop m).flatMap g := by rw [← List.flatMap_append, List.take_append_drop]
  rw [h, List.length_append]
  omega
theorem rowTo_len {ws o : List Nat} (hw : ∀ k, ws.getD k 0 ≤ 3) : ∀ j, (rowTo ws o j).length ≤ 3 * j
  | 0 => Nat.le_refl _
  | j + 1 => by
    have h1 := rowTo_len (o := o) hw j
    have h2 := hw (o.getD j 0)
    simp only [rowTo, flat_rep, List.length_append, List.length_replicate]
    omega
theorem pretty_len (m : Nat) : (pretty m).length ≤ 10000 := by
  unfold pretty
  have hj : Txt.join (Str.ofString ", ") (flagNames m) = Str.join (Str.ofString ", ") (flagNames m) := StrLaws.glued_eq_join _ _
  rw [hj]
  have h1 := StrLaws.join_length_le (Str.ofString ", ") (flagNames m)
  rw [comma_length] at h1
  unfold flagNames at h1 ⊢
  split
  · rename_i h; rw [if_pos h] at h1
    have h2 : (Str.ofString "0x0").length = 3 := by decide +kernel
    simp only [List.map_cons, List.map_nil, List.sum_cons, List.sum_nil, List.length_cons, List.length_nil, h2] at h1
    omega
  · rename_i h; rw [if_neg h] at h1
    have h2 := strs_sum _ (flagsUpto_small (m := m))
    have h3 := flagsUpto_length m 32
    omega
theorem rowB_ok {n p0 d : Nat} (h32 : ∀ k, k < n → plc p0 d k < 32) (b : Nat → Bool) : ∀ x ∈ rowB n p0 d b, PyData.strOk x = true := by
  intro x hx
  unfold rowB at hx
  split at hx
  · rw [List.mem_singleton.mp hx]; decide +kernel
  · obtain ⟨k, hk, rfl⟩ := List.mem_map.mp hx
    have h1 : k < n := by
      have := (List.mem_filter.mp hk).1
      simpa using this
    exact (lawName_all ⟨plc p0 d k, h32 k h1⟩).2.2.2.1
theorem maskB_pos {n p0 d : Nat} (b : Nat → Bool) : 0 < maskB n p0 d b ↔ sel n b ≠ [] := by
  have h := word_zero (ps := (sel n b).map (plc p0 d))
  unfold maskB
  constructor
  · intro h1 h2
    have := h.mpr (by rw [h2]; rfl)
    omega
  · intro h1
    refine Nat.pos_of_ne_zero fun h2 => h1 ?_
    simpa using h.mp h2
theorem contains_rowB {n p0 d : Nat} (hd : 1 ≤ d) (h32 : ∀ k, k < n → plc p0 d k < 32) (b : Nat → Bool) {k : Nat} (hk : k < n) : (rowB n p0 d b).contains (lawName ((plc p0 d k : Nat) : Int)) = b k := by
  have h := count_rowB hd h32 b hk
  cases hb : b k
  · rw [hb] at h
    have hn : lawName ((plc p0 d k : Nat) : Int) ∉ rowB n p0 d b := fun hm => by
      have := List.count_pos_iff.mpr hm
      rw [h] at this; exact absurd this (by decide)
    cases hc : (rowB n p0 d b).contains (lawName ((plc p0 d k : Nat) : Int))
    · rfl
    · exact absurd (List.contains_iff_mem.mp hc) hn
  · rw [hb] at h
    exact List.contains_iff_mem.mpr (List.count_pos_iff.mp (by rw [h]; decide))
theorem flat_succ {α : Type} (g : Nat → List α) (j : Nat) : (List.range j).flatMap g ++ g j = (List.range (j + 1)).flatMap g := by
  rw [List.range_succ, List.flatMap_append]
  simp
theorem flat_len {α : Type} {g : Nat → List α} {m : Nat} (h : ∀ j, (g j).length ≤ m) : ∀ j, ((List.range j).flatMap g).length ≤ m * j
  | 0 => Nat.le_refl _
  | j + 1 => by
    rw [← flat_succ, List.length_append, Nat.mul_succ]
    have h1 := flat_len h j
    have h2 := h j
    omega
theorem six (c : Nat) : [6, 2, 2, 6].getD c 0 ≤ 6 := by
  match c with
  | 0 => decide
  | 1 => decide
  | 2 => decide
  | 3 => decide
  | c + 4 => exact Nat.zero_le _
theorem lowAt_len (ws : List Nat) (c k : Nat) : (lowAt ws c k).length ≤ 6 := by
  unfold lowAt
  split
  · rw [List.length_replicate]; exact six _
  · exact Nat.zero_le _
theorem highAt_len (ws : List Nat) (c k : Nat) : (highAt ws c k).length ≤ 6 := by
  unfold highAt
  split
  · rw [List.length_replicate]; exact six _
  · exact Nat.zero_le _
theorem due_succ (g : Nat → Nat → List (List Nat)) (c : Nat) : dueOf g c ++ (List.range 4).flatMap (g c) = dueOf g (c + 1) := flat_succ _ _
theorem due_len {g : Nat → Nat → List (List Nat)} (h : ∀ c k, (g c k).length ≤ 6) (c : Nat) : (dueOf g c).length ≤ 24 * c := flat_len (fun j => Nat.le_trans (flat_len (h j) 4) (by decide)) c
theorem pairs_flat (m k c : Nat) : (List.replicate m [[k, c]]).flatten = List.replicate m [k, c] := by
  induction m with
  | zero => rfl
  | succ m ih => rw [List.replicate_succ, List.flatten_cons, ih]; rfl
theorem cnt_names {p0 d : Nat} (hd : 1 ≤ d) (h32 : ∀ k, k < 4 → plc p0 d k < 32) (c : Nat) : (((((List.range 4).map fun k => lawName ((plc p0 d k : Nat) : Int)).filter fun x => (rowB 4 p0 d (bitN c)).contains x)).map fun x => x).length = cntOf c := by
  rw [List.length_map, List.filter_map, List.length_map]
  unfold cntOf
  congr 1
  exact List.filter_congr fun k hk => contains_rowB hd h32 (bitN c) (by simpa using hk)
theorem cnt_lt {c k : Nat} (hk : k < 4) (h : bitN c k = false) : cntOf c < 4 := by
  unfold cntOf
  have h1 : ((List.range 4).filter (bitN c)).length ≤ 4 := Nat.le_trans (List.length_filter_le _ _) (by simp)
  refine Nat.lt_of_le_of_ne h1 fun e => ?_
  have h2 : (List.range 4).filter (bitN c) = List.range 4 := List.filter_eq_self.mpr (by
    have h3 := List.length_filter_eq_length_iff.mp (e.trans (by simp))
    exact h3)
  have h4 : k ∈ (List.range 4).filter (bitN c) := by rw [h2]; simpa using hk
  have h5 := (List.mem_filter.mp h4).2
  rw [h] at h5; cases h5
theorem sel_some : ∀ c : _root_.Fin 16, (0 < c.val ↔ sel 4 (bitN c.val) ≠ []) := by decide +kernel
theorem lowsP_two {ws : List Nat} {i : Nat} : ∀ x ∈ lowsP ws i, x.length = 2 := by
  intro x hx
  unfold lowsP at hx
  split at hx
  · cases hx
  · obtain ⟨o, _, rfl⟩ := List.mem_map.mp hx; rfl
theorem highsP_two {ws : List Nat} {i : Nat} : ∀ x ∈ highsP ws i, x.length = 2 := by
  intro x hx
  unfold highsP at hx
  split at hx
  · cases hx
  · obtain ⟨o, _, rfl⟩ := List.mem_map.mp hx; rfl
theorem op_mulLN {X : Cx} {n : Nat} {α : Type} {K : α → Val} {l : List α} {m : Nat} (hlen : l.length * m ≤ 1000) (hm : m ≤ 1000) : Op2 X n (binaryOp .Mult) (lV K l) (zV m) (lV K (List.replicate m l).flatten) :=
  (op_mulL (x := (m : Int)) (by rw [Int.toNat_natCast]; exact hlen) (by omega) (by omega)).cast (lV_eq (by rw [Int.toNat_natCast]))
theorem FS.castW {X : Cx} {n : Nat} {sc : Scope} {own : List Str} {F : Frm X n sc own} {Nv Nw : List Addr} {ω ω' : List (Addr × OwnP)} {ρ : Rho} {sr s : Shared} (S : FS F Nv ω ρ sr Nw s) (h : ω = ω') : FS F Nv ω' ρ sr Nw s := h ▸ S
theorem lowsP_zero (ws : List Nat) : lowsP ws 0 = [] := by unfold lowsP; split <;> rfl
theorem highsP_zero (ws : List Nat) : highsP ws 0 = [] := by unfold highsP; split <;> rfl
theorem lowsP_none {ws : List Nat} (h : whole ws = 0) (i : Nat) : lowsP ws i = [] := by unfold lowsP; rw [if_pos h]
theorem highsP_none {ws : List Nat} (h : whole ws = 0) (i : Nat) : highsP ws i = [] := by unfold highsP; rw [if_pos h]
theorem lowsP_succ {ws o : List Nat} {i : Nat} (h : 0 < whole ws) (ho : ordersL[i]? = some o) : lowsP ws i ++ [[o.getD (lowP ws o) 0, lowP ws o]] = lowsP ws (i + 1) := by
  unfold lowsP
  rw [if_neg (by omega), if_neg (by omega), List.take_add_one, ho, List.map_append]
  rfl
theorem highsP_succ {ws o : List Nat} {i : Nat} (h : 0 < whole ws) (ho : ordersL[i]? = some o) : highsP ws i ++ [[o.getD (highP ws o) 0, highP ws o]] = highsP ws (i + 1) := by
  unfold highsP
  rw [if_neg (by omega), if_neg (by omega), List.take_add_one, ho, List.map_append]
  rfl
theorem lowsP_len (ws : List Nat) (i : Nat) : (lowsP ws i).length ≤ 24 := by
  unfold lowsP
  split
  · exact Nat.zero_le _
  · rw [List.length_map, List.length_take]; exact Nat.le_trans (Nat.min_le_right _ _) (by decide)
theorem highsP_len (ws : List Nat) (i : Nat) : (highsP ws i).length ≤ 24 := by
  unfold highsP
  split
  · exact Nat.zero_le _
  · rw [List.length_map, List.length_take]; exact Nat.le_trans (Nat.min_le_right _ _) (by decide)
section
variable {w : World} {mg mb : Str → Option Value} {n : Nat}
theorem fn_medLowN {l : List Nat} (h0 : 0 < l.length) (hlen : l.length < 64) : Fn (X02 w mg mb) (n + 1) (.ref 42) [lV zV l] (zV (medLowN l)) :=
  (fn_medLow (l := natI l) (by rw [natI_length]; exact h0) (by rw [natI_length]; exact hlen)).one lv_natI (VImp.eq (iV_eq (medLow_natI l)))
theorem fn_medHighN {l : List Nat} (h0 : 0 < l.length) (hlen : l.length < 64) : Fn (X02 w mg mb) (n + 1) (.ref 49) [lV zV l] (zV (medHighN l)) :=
  (fn_medHigh (l := natI l) (by rw [natI_length]; exact h0) (by rw [natI_length]; exact hlen)).one lv_natI (VImp.eq (iV_eq (medHigh_natI l)))
set_option maxRecDepth 100000 in
set_option maxHeartbeats 4000000 in
theorem law02_call {ns : List Int} {v : Value} {s s₀ : Shared} {E : Value → Shared → Prop} (TB : Top hd02.view_39 (looseW hd02.view_39 [Str.ofString "COMPILER_FLAG_NAMES"]) (ExcName.means s₀.heap) mg mb s.heap) (hlen : ns.length ≤ 63) (B : Base (X02 w mg mb) (n + 2) callerA [] s) (hv : (wV iV ns).holds (vw [] s.heap) v) :
    wpAny (X02 w mg mb).M callerA (call (.ref 68) [v]) (fun r s' => r = .bool true ∧ (∀ b o, s.heap.get? b = some o → s'.heap.get? b = some o) ∧ s'.gens = s.gens ∧ s'.os = s.os) E s := by
  refine call_defT (x := "script") (own := ["script", "cells", "places", "names", "weights", "whole", "orders", "k", "lows", "highs", "order", "row", "j", "low", "high", "told", "due_lows", "due_highs", "ahead", "count"]) (o := _) (fd := _) (body := _) rfl rfl rfl rfl rfl rfl ?_ (fun v => rfl) (by decide +kernel) (by decide +kernel) B hv ?_
  · intro h hK
    exact ⟨67, _, _, _, rfl, hK 67 _ rfl, rfl, rfl⟩
  · intro F s₁ hs₀ hN hA hfr S
    refine go_assignL (V := lV iV ((List.range 5).map (cell02 ns))) S (Ev.comp1n (J := iV) (by decide +kernel) (Ev.rangeN (m := 5) (Ev.const_nat 5) rfl rfl) (itr_rangeN (by decide)) (fun k hk => ?_) (by decide)) (by decide +kernel) (by decide +kernel) (by decide +kernel) fun s' S => ?_
    · have hk2 : k < 5 := by simpa using hk
      refine Ev.binop (Ev.subN (l := [0, 6, 5, 3, 0]) (Ev.list (K := iV) (.cons ⟨rfl, Ev.const_int⟩ (.cons ⟨rfl, Ev.const_int⟩ (.cons ⟨rfl, Ev.const_int⟩ (.cons ⟨rfl, Ev.const_int⟩ (.cons ⟨rfl, Ev.const_int⟩ .nil))))) (by decide)) (by walk_at "nm") 0 hk2 (by decide) rfl) (Ev.sum (Ev.slice (K := iV) (l := ns) (lo := some (k : Int)) (hi := none) (st := some 5) (by walk_at "nm") (show Ev _ _ _ _ _ _ by walk_at "nm") True.intro (show Ev _ _ _ _ _ _ from Ev.const_int) (by decide) (by omega)) rfl rfl) op_add
    have S : FS F F.N [] (upd (upd rho0 "script" (wV iV ns)) "cells" (lV iV [cell02 ns 0, cell02 ns 1, cell02 ns 2, cell02 ns 3, cell02 ns 4])) s₁ [] s' := S
    generalize cell02 ns 0 = c0 at S
    generalize cell02 ns 1 = c1 at S
    generalize cell02 ns 2 = c2 at S
    generalize cell02 ns 3 = c3 at S
    generalize cell02 ns 4 = c4 at S
    have hd := (d02_lt c0).2
    have h32 := places02 c0
    have ep : ((p02 c0 : Nat) : Int) = c0 % 8 := by unfold p02; omega
    have ed : ((d02 c0 : Nat) : Int) = 1 + c0 / 8 % 7 := by unfold d02; omega
    refine go_assignL (V := lV zV ((List.range 4).map (plc (p02 c0) (d02 c0)))) S (Ev.comp1n (J := zV) (by decide +kernel) (Ev.rangeN (m := 4) (Ev.const_nat 4) rfl rfl) (itr_rangeN (by decide)) (fun k hk => ?_) (by decide)) (by decide +kernel) (by decide +kernel) (by decide +kernel) fun s' S => ?_
    · refine (Ev.binop (Ev.binop (Ev.subN (k := 0) (by walk_at "nm") (Ev.const_nat 0) 0 (by walk_at "sz") (by walk_at "sz") rfl) Ev.const_int (op_mod (by decide))) (Ev.binop (Ev.binop Ev.const_int (Ev.binop (Ev.binop (Ev.subN (k := 0) (by walk_at "nm") (Ev.const_nat 0) 0 (by walk_at "sz") (by walk_at "sz") rfl) Ev.const_int (op_fdiv (by decide) (by decide))) Ev.const_int (op_mod (by decide))) op_add) (by walk_at "nm") (op_mul ?_)) op_add).cast (zV_of ?_)
      · show (1 + c0 / 8 % 7).natAbs < 2 ^ 63
        omega
      · show c0 % 8 + (1 + c0 / 8 % 7) * (k : Int) = ((p02 c0 + d02 c0 * k : Nat) : Int)
        rw [Int.natCast_add, Int.natCast_mul, ep, ed]
    clear ep ed
    generalize p02 c0 = p0 at *
    generalize d02 c0 = d at *
    refine go_assignL (V := lV sV ((List.range 4).map fun k => lawName ((plc p0 d k : Nat) : Int))) S ((Ev.comp1n (J := sV) (f := fun p : Nat => lawName (p : Int)) (by decide +kernel) (by walk_at "nm") itr_list (fun p hpl => ?_) (by walk_at "sz")).cast (lV_eq (by rw [List.map_map]; rfl))) (by decide +kernel) (by decide +kernel) (by decide +kernel) fun s' S => ?_
    · have hp32 : p < 32 := by
        obtain ⟨k, hk, rfl⟩ := List.mem_map.mp hpl
        exact h32 k (by simpa using hk)
      exact Ev.callF (.cons ⟨rfl, by walk_at "nm"⟩ .nil) (fn_lawName (by omega) (by omega)) (by show _ ∈ F02; decide +kernel) rfl rfl rfl rfl
    refine go_assignL (V := lV zV [(c1 % 4).toNat, (c2 % 4).toNat, (c3 % 4).toNat, (c4 % 4).toNat]) S ((Ev.comp1n (J := zV) (f := fun c : Int => (c % 4).toNat) (xs := [c1, c2, c3, c4]) (by decide +kernel) (by
      refine Ev.cast (V := lV iV (pick [c0, c1, c2, c3, c4] (some 1) none none)) ?_ (lV_eq (pick_tail c0 c1 c2 c3 c4))
      exact Ev.slice (K := iV) (l := [c0, c1, c2, c3, c4]) (lo := some 1) (hi := none) (st := none) (Ev.weak (by walk_at "nm")) (show Ev _ _ _ _ _ _ from Ev.const_int) True.intro True.intro (by decide) (by walk_at "sz")) itr_list (fun c hc => ?_) (by walk_at "sz"))) (by decide +kernel) (by decide +kernel) (by decide +kernel) fun s' S => ?_
    · exact (Ev.binop (by walk_at "nm") Ev.const_int (op_mod (by decide))).cast (zV_of (by omega))
    have fact := fact02 (a := (c1 % 4).toNat) (b := (c2 % 4).toNat) (c := (c3 % 4).toNat) (d := (c4 % 4).toNat)
    have hwl : [(c1 % 4).toNat, (c2 % 4).toNat, (c3 % 4).toNat, (c4 % 4).toNat].length = 4 := rfl
    have hw3 : ∀ k, [(c1 % 4).toNat, (c2 % 4).toNat, (c3 % 4).toNat, (c4 % 4).toNat].getD k 0 ≤ 3 := fun k => by
      match k with
      | 0 => show (c1 % 4).toNat ≤ 3; omega
      | 1 => show (c2 % 4).toNat ≤ 3; omega
      | 2 => show (c3 % 4).toNat ≤ 3; omega
      | 3 => show (c4 % 4).toNat ≤ 3; omega
      | k + 4 => exact Nat.zero_le _
    have hw12 : whole [(c1 % 4).toNat, (c2 % 4).toNat, (c3 % 4).toNat, (c4 % 4).toNat] < 13 := by
      simp only [whole, List.sum_cons, List.sum_nil]; omega
    generalize [(c1 % 4).toNat, (c2 % 4).toNat, (c3 % 4).toNat, (c4 % 4).toNat] = ws at *
    refine go_assign (V := zV (whole ws)) S (Ev.sumN (by walk_at "nm") rfl rfl) (by decide +kernel) (by decide +kernel) rfl fun s' S => ?_
    refine go_assign (V := lV (lV zV) (ordersTo 0)) S (Ev.list (K := lV zV) (l := [[]]) (.cons ⟨rfl, Ev.nil⟩ .nil) (by walk_at "sz")) (by decide +kernel) (by decide +kernel) rfl fun s' S => ?_
    -- the orders
    refine go_forN (fun _ => []) (fun i => upd (upd (upd (upd (upd rho0 "places" (lV zV ((List.range 4).map (plc p0 d)))) "names" (lV sV ((List.range 4).map fun k => lawName ((plc p0 d k : Nat) : Int)))) "weights" (lV zV ws)) "whole" (zV (whole ws))) "orders" (lV (lV zV) (ordersTo i)))
      (S.wk (by walk_at "wk")) (K := zV) (xs := List.range 4) (Ev.rangeN (m := 4) (Ev.const_nat 4) rfl rfl) (itr_rangeN (by decide)) (by decide +kernel) (by decide +kernel) (fun _ p hp => nomatch hp) (fun i k I si s' Q' E' hk S K => ?_) fun s' S => ?_
    · have hi4 : i < 4 := by
        have := (List.getElem?_eq_some_iff.mp hk).1
        simpa using this
      have hk : k = i := by
        rw [List.getElem?_range hi4] at hk
        injection hk with hk
        exact hk.symm
      subst hk
      have few := orders_few ⟨k, by omega⟩
      refine go_assignC (V := lV (lV zV) (ordersTo (k + 1))) S (Cp.comp2 (J := lV zV) (K := lV zV) (K' := zV) (V := lV (lV zV) (ordersTo k)) (V' := fun _ => rV 0 ((k + 1 : Nat) : Int)) (xs := ordersTo k) (ys := fun _ => List.range (k + 1)) (f := fun o j => (pick o none (some (j : Int)) none ++ [k]) ++ pick o (some (j : Int)) none none) (p := fun _ => true) (q := fun _ _ => true) (by decide +kernel) (by decide +kernel) (by walk_at "nm") itr_list (fun _ _ => Tests.nil) (fun _ _ _ => Ev.rangeN (m := k + 1) (Ev.binop (by walk_at "nm") (Ev.const_nat 1) op_addN) rfl rfl) (fun _ _ _ => itr_rangeN (by omega)) (fun _ _ _ _ _ => Tests.nil)
        (fun o ho _ j hj _ => ?_) (fun m hm => ?_) (fun _ _ => by rw [List.length_range]; omega)) (by decide +kernel) (by decide +kernel) (by decide +kernel) fun s' S => ?_
      · have hol : o.length = k := few.2 o ho
        have hj5 : j < k + 1 := by simpa using hj
        have hpf := pick_few (o := o) (j := j) (by omega) (by omega)
        refine Ev.binop (Ev.binop (Ev.slice (K := zV) (l := o) (lo := none) (hi := some (j : Int)) (st := none) (Ev.weak (by walk_at "nm")) True.intro (show Ev _ _ _ _ _ _ by walk_at "nm") True.intro (by decide) (by omega)) (Ev.list (K := zV) (l := [k]) (.cons ⟨rfl, by walk_at "nm"⟩ .nil) (by walk_at "sz")) (op_addL ?_)) (Ev.slice (K := zV) (l := o) (lo := some (j : Int)) (hi := none) (st := none) (Ev.weak (by walk_at "nm")) (show Ev _ _ _ _ _ _ by walk_at "nm") True.intro True.intro (by decide) (by omega)) (op_addL ?_)
        · simp only [List.length_cons, List.length_nil]; omega
        · simp only [List.length_append, List.length_cons, List.length_nil]; omega
      · refine Nat.le_trans (take_flat_le _ _ _) ?_
        exact Nat.le_trans (show (ordersTo (k + 1)).length ≤ 24 from (orders_few ⟨k + 1, by omega⟩).1) (by decide)
      exact go_nil (K _ (S.wk (by walk_at "wk")))
    rw [List.length_range, orders_lit] at S
    refine go_own2 (K := lV zV) (K' := lV zV) S (by decide +kernel) (by decide +kernel) (by decide +kernel) (by decide +kernel) (fun Dl Dh s' S => ?_) (fun env h => by cases env; subst h; rfl)
    have S := S.castW (ω' := [(Dh, listP (lV zV) (highsP ws 0)), (Dl, listP (lV zV) (lowsP ws 0))]) (by rw [lowsP_zero, highsP_zero])
    -- each order
    refine go_forN (fun i => [(Dh, listP (lV zV) (highsP ws i)), (Dl, listP (lV zV) (lowsP ws i))]) (fun _ => upd (upd (upd (upd (upd (upd (upd rho0 "places" (lV zV ((List.range 4).map (plc p0 d)))) "names" (lV sV ((List.range 4).map fun k => lawName ((plc p0 d k : Nat) : Int)))) "weights" (lV zV ws)) "whole" (zV (whole ws))) "orders" (lV (lV zV) ordersL)) "highs" (refV Dh)) "lows" (refV Dl))
      (S.wk (by walk_at "wk")) (K := lV zV) (xs := ordersL) (by walk_at "nm") itr_list (by decide +kernel) (by decide +kernel) (fun i p hp => by simp only [List.mem_cons, List.not_mem_nil, or_false] at hp; rcases hp with rfl | rfl <;> simp) (fun i o I si s' Q' E' ho S K => ?_) fun s' S => ?_
    · have hom : o ∈ ordersL := List.mem_of_getElem? ho
      obtain ⟨hol, hob⟩ := ordersL_all o hom
      have hoj : ∀ j, j < 4 → o.getD j 0 < 4 := fun j hj => by
        match j, hj with
        | 0, _ => exact hob.1
        | 1, _ => exact hob.2.1
        | 2, _ => exact hob.2.2.1
        | 3, _ => exact hob.2.2.2
      refine go_assign (V := lV zV (rowTo ws o 0)) S Ev.nil (by decide +kernel) (by decide +kernel) rfl fun s' S => ?_
      refine go_forN (fun _ => [(Dh, listP (lV zV) (highsP ws i)), (Dl, listP (lV zV) (lowsP ws i))]) (fun j => upd (upd (upd (upd (upd (upd (upd (upd (upd rho0 "places" (lV zV ((List.range 4).map (plc p0 d)))) "names" (lV sV ((List.range 4).map fun k => lawName ((plc p0 d k : Nat) : Int)))) "weights" (lV zV ws)) "whole" (zV (whole ws))) "orders" (lV (lV zV) ordersL)) "highs" (refV Dh)) "lows" (refV Dl)) "order" (lV zV o)) "row" (lV zV (rowTo ws o j)))
        (S.wk (by walk_at "wk")) (K := zV) (xs := List.range 4) (Ev.rangeN (m := 4) (Ev.const_nat 4) rfl rfl) (itr_rangeN (by decide)) (by decide +kernel) (by decide +kernel) (fun _ p hp => List.mem_map.mpr ⟨p, hp, rfl⟩) (fun j j' I' si' s' Q'' E'' hj S K' => ?_) fun s' S => ?_
      · have hj4 : j < 4 := by
          have := (List.getElem?_eq_some_iff.mp hj).1
          simpa using this
        have hj : j' = j := by
          rw [List.getElem?_range hj4] at hj
          injection hj with hj
          exact hj.symm
        subst hj
        have hw' := hw3 (o.getD j' 0)
        have hrl := rowTo_len (o := o) hw3 j'
        refine go_assign (V := lV zV (rowTo ws o (j' + 1))) S (Ev.binop ((Ev.binop (Ev.list (K := zV) (l := [j']) (.cons ⟨rfl, by walk_at "nm"⟩ .nil) (by walk_at "sz")) (Ev.subN (by walk_at "nm") (Ev.subN (by walk_at "nm") (by walk_at "nm") 0 (by rw [hol]; exact hj4) (by rw [hol]; decide) rfl) 0 (by rw [hwl]; exact hoj j' hj4) (by rw [hwl]; decide) rfl) (op_mulLN ?_ ?_))) (by walk_at "nm") (op_addL ?_)) (by decide +kernel) (by decide +kernel) rfl fun s' S => ?_
        · simp only [List.length_cons, List.length_nil]; omega
        · omega
        · rw [flat_rep, List.length_replicate]; omega
        exact go_nil (K' _ (S.wk (by walk_at "wk")))
      rw [List.length_range] at S
      have hrow : (rowTo ws o 4).length ≤ 12 := rowTo_len hw3 4
      have hr2 := (row2_perm (rowTo ws o 4) (by omega)).length_eq
      refine go_assign (V := lV zV (row2 (rowTo ws o 4))) S (Ev.binop (Ev.slice (K := zV) (l := rowTo ws o 4) (lo := none) (hi := none) (st := some 2) (Ev.weak (by walk_at "nm")) True.intro True.intro (show Ev _ _ _ _ _ _ from Ev.const_int) (by decide) (by omega)) (Ev.slice (K := zV) (l := rowTo ws o 4) (lo := some 1) (hi := none) (st := some 2) (Ev.weak (by walk_at "nm")) (show Ev _ _ _ _ _ _ from Ev.const_int) True.intro (show Ev _ _ _ _ _ _ from Ev.const_int) (by decide) (by omega)) (op_addL ?_)) (by decide +kernel) (by decide +kernel) rfl fun s' S => ?_
      · rw [← List.length_append]
        exact Nat.le_trans (Nat.le_of_eq hr2) (by omega)
      refine go_if S (EvT.compare (by walk_at "nm") (Ev.const_nat 0) cmp_gtN) (fun hb s' S => ?_) fun hb s' S => ?_
      · have hw0 : 0 < whole ws := of_decide_eq_true hb
        obtain ⟨hm1, hm2, hm3⟩ := row_medians (fact.len o hom) hw12
        obtain ⟨hl4, hh4⟩ := fact.low hw0 o hom
        refine go_assign2 (V₁ := zV (lowP ws o)) (V₂ := zV (highP ws o)) S ((Ev.callF (.cons ⟨rfl, by walk_at "nm"⟩ .nil) (fn_medLowN (by omega) (by omega)) (by show _ ∈ F02; decide +kernel) rfl rfl rfl rfl).cast (zV_eq hm1))
          ((Ev.callF (.cons ⟨rfl, by walk_at "nm"⟩ .nil) (fn_medHighN (by omega) (by omega)) (by show _ ∈ F02; decide +kernel) rfl rfl rfl rfl).cast (zV_eq hm2)) rfl rfl (by decide +kernel) (by decide +kernel) (by decide +kernel) (by decide +kernel) (fun s' S => ?_) (fun env h => by cases env; subst h; rfl)
        refine go_if S (EvT.compare (Ev.comp1 (J := zV) (K := zV) (xs := [lowP ws o, highP ws o]) (f := fun x => x) (p := fun _ => false) (by decide +kernel) (Ev.tuple (K := zV) (.cons ⟨rfl, by walk_at "nm"⟩ (.cons ⟨rfl, by walk_at "nm"⟩ .nil)) (by walk_at "sz")) itr_tuple (fun x hx => ?_) (fun x hx h => nomatch h) (by walk_at "sz")) (Ev.nil (K := zV)) (cmp_neE (enc_list enc_nat) (by decide) (fun _ _ => trivial) fun _ _ => trivial)) (fun h => ?_) fun _ s' S => ?_
        · have hx4 : x < 4 := by
            simp only [List.mem_cons, List.not_mem_nil, or_false] at hx
            rcases hx with rfl | rfl
            · exact hl4
            · exact hh4
          exact Tests.one (EvT.or (EvT.bool (Ev.callB (.cons ⟨rfl, by walk_at "nm"⟩ (.cons ⟨rfl, Ev.bname (by decide +kernel) boot_bool' rfl⟩ .nil)) fn_isbool (by decide +kernel) boot_isinstance' rfl)) fun _ => EvT.compare (by walk_at "nm") (Ev.rangeN (m := 4) (Ev.const_nat 4) rfl rfl) (cmp_notin_range hx4))
        · simp at h
        refine go_nx ?_
        have hll := lowsP_len ws i
        have hhl := highsP_len ws i
        refine go_append (y := [o.getD (lowP ws o) 0, lowP ws o]) S.swap (by walk_at "look") (by decide +kernel) (Ev.list (K := zV) (.cons ⟨rfl, Ev.subN (by walk_at "nm") (by walk_at "nm") 0 (by rw [hol]; exact hl4) (by rw [hol]; decide) rfl⟩ (.cons ⟨rfl, by walk_at "nm"⟩ .nil)) (by walk_at "sz")) rfl (by omega) fun s' S => ?_
        refine go_append (y := [o.getD (highP ws o) 0, highP ws o]) S.swap (by walk_at "look") (by decide +kernel) (Ev.list (K := zV) (.cons ⟨rfl, Ev.subN (by walk_at "nm") (by walk_at "nm") 0 (by rw [hol]; exact hh4) (by rw [hol]; decide) rfl⟩ (.cons ⟨rfl, by walk_at "nm"⟩ .nil)) (by walk_at "sz")) rfl (by omega) fun s' S => ?_
        rw [lowsP_succ hw0 ho, highsP_succ hw0 ho] at S
        exact go_nx (go_nil (K _ (S.wk (by walk_at "wk"))))
      · have hw0 : whole ws = 0 := by have := of_decide_eq_false hb; omega
        have S := S.castW (ω' := [(Dh, listP (lV zV) (highsP ws (i + 1))), (Dl, listP (lV zV) (lowsP ws (i + 1)))]) (by rw [highsP_none hw0, lowsP_none hw0, highsP_none hw0, lowsP_none hw0])
        exact go_nx (go_nil (K _ (S.wk (by walk_at "wk"))))
    rw [show ordersL.length = 24 from rfl] at S
    have S := S.release2 (x := "highs") (y := "lows") (by walk_at "look") (by walk_at "look") (by decide +kernel) (by decide +kernel) (by decide +kernel)
    -- what is told of each choice
    refine go_assignC (V := lV (lV sV) ((List.range 16).map fun c => rowB 4 p0 d (bitN c))) S (Cp.comp1n (J := lV sV) (f := fun c => rowB 4 p0 d (bitN c)) (by decide +kernel) (Ev.rangeN (m := 16) (Ev.const_nat 16) rfl rfl) (itr_rangeN (by decide)) (fun c hc => (Ev.meth (Ev.callF (.cons ⟨rfl, (Ev.sumN (Ev.comp1 (J := zV) (f := fun k => 2 ^ plc p0 d k) (p := bitN c) (by decide +kernel) (Ev.rangeN (m := 4) (Ev.const_nat 4) rfl rfl) (itr_rangeN (by decide)) (fun k hk => ?t1) (fun k hk hb => ?t2) (by decide)) rfl rfl).cast (zV_eq (b := maskB 4 p0 d (bitN c)) ?t3)⟩ .nil) (fn_pretty (maskB_lt hd h32 _)) (by show _ ∈ F02; decide +kernel) rfl rfl rfl rfl) (.cons ⟨rfl, Ev.const_str⟩ .nil) hasM_split (fn_split (by decide +kernel) (pretty_len _))).cast (lV_eq (pretty_split hd h32 _))) (by decide)) (by decide +kernel) (by decide +kernel) (by decide +kernel) fun s' S => ?_
    case t1 => exact Tests.one (EvT.nat (Ev.binop (Ev.binop (by walk_at "nm") (by walk_at "nm") op_shrN) (Ev.const_nat 1) op_andN))
    case t2 =>
      have hk4 : k < 4 := by simpa using hk
      have e : ((List.range 4).map (plc p0 d)).getD k 0 = plc p0 d k := by simp [List.getD, hk4]
      exact Ev.binop (Ev.const_nat 2) ((Ev.subN (by walk_at "nm") (by walk_at "nm") 0 (by simpa using hk4) (by simp) rfl).cast (zV_eq e)) (op_pow2N (by have := h32 k hk4; omega))
    case t3 =>
      unfold maskB wordOf sel
      rw [List.map_map]; rfl
    refine go_assign2 (V₁ := lV (lV zV) (dueOf (lowAt ws) 0)) (V₂ := lV (lV zV) (dueOf (highAt ws) 0)) S Ev.nil Ev.nil rfl rfl (by decide +kernel) (by decide +kernel) (by decide +kernel) (by decide +kernel) (fun s' S => ?_) (fun env h => by cases env; subst h; rfl)
    -- the rows told
    refine go_forN (fun _ => []) (fun i => upd (upd (upd (upd (upd (upd (upd (upd rho0 "names" (lV sV ((List.range 4).map fun k => lawName ((plc p0 d k : Nat) : Int)))) "weights" (lV zV ws)) "whole" (zV (whole ws))) "lows" (lV (lV zV) (lowsP ws 24))) "highs" (lV (lV zV) (highsP ws 24))) "told" (lV (lV sV) ((List.range 16).map fun c => rowB 4 p0 d (bitN c)))) "due_highs" (lV (lV zV) (dueOf (highAt ws) i))) "due_lows" (lV (lV zV) (dueOf (lowAt ws) i)))
      (S.wk (by walk_at "wk")) (K := fun c => lV sV (rowB 4 p0 d (bitN c))) (xs := List.range 16) (by walk_at "nm") (itr_list (K := lV sV)).map (by decide +kernel) (by decide +kernel) (fun _ p hp => nomatch hp) (fun i c I si s' Q' E' hc S K => ?_) fun s' S => ?_
    · have hi16 : i < 16 := by
        have := (List.getElem?_eq_some_iff.mp hc).1
        simpa using this
      have hc : c = i := by
        rw [List.getElem?_range hi16] at hc
        injection hc with hc
        exact hc.symm
      subst hc
      have hct : ∀ k, k < 4 → (rowB 4 p0 d (bitN c)).contains (lawName ((plc p0 d k : Nat) : Int)) = bitN c k := fun k hk => contains_rowB hd h32 (bitN c) hk
      have hnm : ∀ k, k < 4 → ((List.range 4).map fun k => lawName ((plc p0 d k : Nat) : Int)).getD k Str.empty = lawName ((plc p0 d k : Nat) : Int) := fun k hk => by simp [List.getD, hk]
      refine go_assign (V := zV (aheadOf ws c)) S (Ev.sumN (Ev.comp1 (J := zV) (f := fun k => ws.getD k 0) (p := bitN c) (by decide +kernel) (Ev.rangeN (m := 4) (Ev.const_nat 4) rfl rfl) (itr_rangeN (by decide)) (fun k hk => ?_) (fun k hk hb => ?_) (by decide)) rfl rfl) (by decide +kernel) (by decide +kernel) rfl fun s' S => ?_
      · have hk4 : k < 4 := by simpa using hk
        exact Tests.one ((EvT.compare ((Ev.subN (by walk_at "nm") (by walk_at "nm") Str.empty (by simpa using hk4) (by simp) rfl).cast (sV_eq (hnm k hk4))) (by walk_at "nm") cmp_in_s).cast (hct k hk4))
      · have hk4 : k < 4 := by simpa using hk
        exact Ev.subN (by walk_at "nm") (by walk_at "nm") 0 (by rw [hwl]; exact hk4) (by rw [hwl]; decide) rfl
      refine go_assign (V := zV (cntOf c)) S ((Ev.lenN (Ev.comp1 (J := sV) (f := fun x : Str => x) (p := fun x => (rowB 4 p0 d (bitN c)).contains x) (by decide +kernel) (by walk_at "nm") itr_list (fun x hx => ?_) (fun x hx hb => by walk_at "nm") (by walk_at "sz")) (by rw [cnt_names hd h32]; exact Nat.le_trans (List.length_filter_le _ _) (by simp)) rfl rfl).cast (zV_eq (cnt_names hd h32 c))) (by decide +kernel) (by decide +kernel) rfl fun s' S => ?_
      · exact Tests.one (EvT.compare (by walk_at "nm") (by walk_at "nm") cmp_in_s)
      have hdl := due_len (lowAt_len ws) c
      have hdh := due_len (highAt_len ws) c
      refine go_forN (fun _ => []) (fun j => upd (upd (upd (upd (upd (upd (upd (upd (upd (upd (upd rho0 "names" (lV sV ((List.range 4).map fun k => lawName ((plc p0 d k : Nat) : Int)))) "weights" (lV zV ws)) "whole" (zV (whole ws))) "lows" (lV (lV zV) (lowsP ws 24))) "highs" (lV (lV zV) (highsP ws 24))) "told" (lV (lV sV) ((List.range 16).map fun c => rowB 4 p0 d (bitN c)))) "row" (lV sV (rowB 4 p0 d (bitN c)))) "ahead" (zV (aheadOf ws c))) "count" (zV (cntOf c))) "due_highs" (lV (lV zV) (dueOf (highAt ws) c ++ (List.range j).flatMap (highAt ws c)))) "due_lows" (lV (lV zV) (dueOf (lowAt ws) c ++ (List.range j).flatMap (lowAt ws c))))
        (S.wk (Wk.upd (by walk_at "look") (VImp.eq (by simp)) (Wk.upd (by walk_at "look") (VImp.eq (by simp)) (by walk_at "wk")))) (K := zV) (xs := List.range 4) (Ev.rangeN (m := 4) (Ev.const_nat 4) rfl rfl) (itr_rangeN (by decide)) (by decide +kernel) (by decide +kernel) (fun _ p hp => nomatch hp) (fun j k I' si' s' Q'' E'' hk S K' => ?_) fun s' S => ?_
      · have hj4 : j < 4 := by
          have := (List.getElem?_eq_some_iff.mp hk).1
          simpa using this
        have hk : k = j := by
          rw [List.getElem?_range hj4] at hk
          injection hk with hk
          exact hk.symm
        subst hk
        have hwk := hw3 k
        have hfl := flat_len (lowAt_len ws c) k
        have hfh := flat_len (highAt_len ws c) k
        rw [← flat_succ (lowAt ws c) k, ← flat_succ (highAt ws c) k, ← List.append_assoc, ← List.append_assoc] at K'
        generalize hDL : dueOf (lowAt ws) c ++ (List.range k).flatMap (lowAt ws c) = DL at *
        generalize hDH : dueOf (highAt ws) c ++ (List.range k).flatMap (highAt ws c) = DH at *
        have hDLl : DL.length ≤ 600 := by rw [← hDL, List.length_append]; omega
        have hDHl : DH.length ≤ 600 := by rw [← hDH, List.length_append]; omega
        have h6 := six (cntOf c)
        refine go_if S ((EvT.compare ((Ev.subN (by walk_at "nm") (by walk_at "nm") Str.empty (by simpa using hj4) (by simp) rfl).cast (sV_eq (hnm k hj4))) (by walk_at "nm") cmp_notin_s).cast (by rw [hct k hj4])) (fun hb s' S => ?_) fun hb s' S => ?_
        · have hb : bitN c k = false := by simpa using hb
          have hcnt : cntOf c < 4 := cnt_lt hj4 hb
          refine go_ifJ (upd (upd (upd (upd (upd (upd (upd (upd (upd (upd (upd rho0 "names" (lV sV ((List.range 4).map fun k => lawName ((plc p0 d k : Nat) : Int)))) "weights" (lV zV ws)) "whole" (zV (whole ws))) "lows" (lV (lV zV) (lowsP ws 24))) "highs" (lV (lV zV) (highsP ws 24))) "told" (lV (lV sV) ((List.range 16).map fun c => rowB 4 p0 d (bitN c)))) "row" (lV sV (rowB 4 p0 d (bitN c)))) "ahead" (zV (aheadOf ws c))) "count" (zV (cntOf c))) "due_highs" (lV (lV zV) DH)) "due_lows" (lV (lV zV) (DL ++ lowAt ws c k)) |> fun ρ => upd ρ "k" (zV k)) S
            (EvT.chain (Ev.binop (Ev.const_nat 2) (by walk_at "nm") (op_mulN (by decide))) (by walk_at "nm") cmp_ltN (Ev.binop (Ev.const_nat 2) (Ev.binop (by walk_at "nm") (Ev.subN (by walk_at "nm") (by walk_at "nm") 0 (by rw [hwl]; exact hj4) (by rw [hwl]; decide) rfl) op_addN) (op_mulN (by decide))) cmp_leN) (fun hq s' Q1 S K1 => ?_) (fun hq s' Q1 S K1 => ?_) fun s' S => ?_
          · simp only [Bool.and_eq_true, decide_eq_true_eq] at hq
            have e : lowAt ws c k = List.replicate ([6, 2, 2, 6].getD (cntOf c) 0) [k, cntOf c] := by unfold lowAt; rw [if_pos ⟨hb, hq⟩]
            refine go_assign (V := lV (lV zV) (DL ++ lowAt ws c k)) S ((Ev.binop (by walk_at "nm") (Ev.binop (Ev.list (K := lV zV) (l := [[k, cntOf c]]) (.cons ⟨rfl, Ev.list (K := zV) (l := [k, cntOf c]) (.cons ⟨rfl, by walk_at "nm"⟩ (.cons ⟨rfl, by walk_at "nm"⟩ .nil)) (by walk_at "sz")⟩ .nil) (by walk_at "sz")) (Ev.subN (l := [6, 2, 2, 6]) (Ev.list (K := zV) (.cons ⟨rfl, Ev.const_nat 6⟩ (.cons ⟨rfl, Ev.const_nat 2⟩ (.cons ⟨rfl, Ev.const_nat 2⟩ (.cons ⟨rfl, Ev.const_nat 6⟩ .nil)))) (by decide)) (by walk_at "nm") 0 hcnt (by decide) rfl) (op_mulLN (by simp only [List.length_cons, List.length_nil]; omega) (by omega))) (op_addL (by rw [pairs_flat, List.length_replicate]; omega))).cast (lV_eq (by rw [pairs_flat, e]))) (by decide +kernel) (by decide +kernel) rfl fun s' S => ?_
            exact go_nil (K1 _ (S.wk (by walk_at "wk")))
          · have e : lowAt ws c k = [] := by
              unfold lowAt; rw [if_neg]
              rintro ⟨_, h1, h2⟩
              rw [decide_eq_true h1, decide_eq_true h2] at hq; cases hq
            exact go_nil (K1 _ (S.wk (Wk.upd (by walk_at "look") (VImp.refl _) (Wk.upd (by walk_at "look") (VImp.eq (lV_eq (by rw [e, List.append_nil]))) (by walk_at "wk")))))
          refine go_ifJ (upd (upd (upd (upd (upd (upd (upd (upd (upd (upd (upd rho0 "names" (lV sV ((List.range 4).map fun k => lawName ((plc p0 d k : Nat) : Int)))) "weights" (lV zV ws)) "whole" (zV (whole ws))) "lows" (lV (lV zV) (lowsP ws 24))) "highs" (lV (lV zV) (highsP ws 24))) "told" (lV (lV sV) ((List.range 16).map fun c => rowB 4 p0 d (bitN c)))) "row" (lV sV (rowB 4 p0 d (bitN c)))) "ahead" (zV (aheadOf ws c))) "count" (zV (cntOf c))) "due_highs" (lV (lV zV) (DH ++ highAt ws c k))) "due_lows" (lV (lV zV) (DL ++ lowAt ws c k))) S
            (EvT.chain (Ev.binop (Ev.const_nat 2) (by walk_at "nm") (op_mulN (by decide))) (by walk_at "nm") cmp_leN (Ev.binop (Ev.const_nat 2) (Ev.binop (by walk_at "nm") (Ev.subN (by walk_at "nm") (by walk_at "nm") 0 (by rw [hwl]; exact hj4) (by rw [hwl]; decide) rfl) op_addN) (op_mulN (by decide))) cmp_ltN) (fun hq s' Q1 S K1 => ?_) (fun hq s' Q1 S K1 => ?_) fun s' S => ?_
          · simp only [Bool.and_eq_true, decide_eq_true_eq] at hq
            have e : highAt ws c k = List.replicate ([6, 2, 2, 6].getD (cntOf c) 0) [k, cntOf c] := by unfold highAt; rw [if_pos ⟨hb, hq⟩]
            refine go_assign (V := lV (lV zV) (DH ++ highAt ws c k)) S ((Ev.binop (by walk_at "nm") (Ev.binop (Ev.list (K := lV zV) (l := [[k, cntOf c]]) (.cons ⟨rfl, Ev.list (K := zV) (l := [k, cntOf c]) (.cons ⟨rfl, by walk_at "nm"⟩ (.cons ⟨rfl, by walk_at "nm"⟩ .nil)) (by walk_at "sz")⟩ .nil) (by walk_at "sz")) (Ev.subN (l := [6, 2, 2, 6]) (Ev.list (K := zV) (.cons ⟨rfl, Ev.const_nat 6⟩ (.cons ⟨rfl, Ev.const_nat 2⟩ (.cons ⟨rfl, Ev.const_nat 2⟩ (.cons ⟨rfl, Ev.const_nat 6⟩ .nil)))) (by decide)) (by walk_at "nm") 0 hcnt (by decide) rfl) (op_mulLN (by simp only [List.length_cons, List.length_nil]; omega) (by omega))) (op_addL (by rw [pairs_flat, List.length_replicate]; omega))).cast (lV_eq (by rw [pairs_flat, e]))) (by decide +kernel) (by decide +kernel) rfl fun s' S => ?_
            exact go_nil (K1 _ (S.wk (by walk_at "wk")))
          · have e : highAt ws c k = [] := by
              unfold highAt; rw [if_neg]
              rintro ⟨_, h1, h2⟩
              rw [decide_eq_true h1, decide_eq_true h2] at hq; cases hq
            exact go_nil (K1 _ (S.wk (Wk.upd (by walk_at "look") (VImp.refl _) (Wk.upd (by walk_at "look") (VImp.eq (lV_eq (by rw [e, List.append_nil]))) (by walk_at "wk")))))
          exact go_nx (go_nil (K' _ (S.wk (by walk_at "wk"))))
        · have hb : bitN c k = true := by simpa using hb
          have e1 : lowAt ws c k = [] := by unfold lowAt; rw [if_neg]; rintro ⟨h, _⟩; rw [hb] at h; cases h
          have e2 : highAt ws c k = [] := by unfold highAt; rw [if_neg]; rintro ⟨h, _⟩; rw [hb] at h; cases h
          exact go_nx (go_nil (K' _ (S.wk (Wk.upd (by walk_at "look") (VImp.eq (lV_eq (by rw [e1, List.append_nil]))) (Wk.upd (by walk_at "look") (VImp.eq (lV_eq (by rw [e2, List.append_nil]))) (by walk_at "wk"))))))
      rw [List.length_range, due_succ, due_succ] at S
      exact go_nil (K _ (S.wk (by walk_at "wk")))
    rw [List.length_range] at S
    have hdl2 : ∀ x ∈ dueOf (lowAt ws) 16, x.length = 2 := fun x hx => lowsP_two x (fact.lows.mem_iff.mpr hx)
    have hdh2 : ∀ x ∈ dueOf (highAt ws) 16, x.length = 2 := fun x hx => highsP_two x (fact.highs.mem_iff.mpr hx)
    have n1 := lowsP_len ws 24
    have n2 := highsP_len ws 24
    have n3 := fact.lows.length_eq
    have n4 := fact.highs.length_eq
    have q1 : sortR (lowsP ws 24) = sortR (dueOf (lowAt ws) 16) := sortR_eq lowsP_two fact.lows
    have q2 : sortR (highsP ws 24) = sortR (dueOf (highAt ws) 16) := sortR_eq highsP_two fact.highs
    refine go_if S (EvT.or (EvT.compare (Ev.sortedR (m := 2) (by walk_at "nm") lowsP_two (by omega) rfl rfl) (Ev.sortedR (m := 2) (by walk_at "nm") hdl2 (by omega) rfl rfl) (cmp_neE (enc_list (enc_list enc_nat)) (by decide) (fun _ _ _ _ => trivial) fun _ _ _ _ => trivial))
      (fun _ => EvT.compare (Ev.sortedR (m := 2) (by walk_at "nm") highsP_two (by omega) rfl rfl) (Ev.sortedR (m := 2) (by walk_at "nm") hdh2 (by omega) rfl rfl) (cmp_neE (enc_list (enc_list enc_nat)) (by decide) (fun _ _ _ _ => trivial) fun _ _ _ _ => trivial))) (fun h => ?_) fun _ s' S => ?_
    · simp [q1, q2] at h
    refine go_nx ?_
    have hrok : ∀ x ∈ (List.range 16).map (fun c => rowB 4 p0 d (bitN c)), ∀ y ∈ x, PyData.strOk y = true := fun x hx => by
      obtain ⟨c, _, rfl⟩ := List.mem_map.mp hx
      exact rowB_ok h32 (bitN c)
    refine go_if S (EvT.compare (by walk_at "nm") (Ev.comp1n (J := lV sV) (f := fun c => rowB 4 p0 d (bitN c)) (by decide +kernel) (Ev.rangeN (m := 16) (Ev.const_nat 16) rfl rfl) (itr_rangeN (by decide)) (fun c hc => Ev.ifexp (EvT.compare (by walk_at "nm") (Ev.const_nat 0) cmp_gtN) (fun h => ?u1) fun h => ?u2) (by decide)) (cmp_neE (enc_list (enc_list enc_str)) (by decide) hrok hrok)) (fun h => ?_) fun _ s' S => ?_
    case u1 =>
      have hne : sel 4 (bitN c) ≠ [] := (sel_some ⟨c, by simpa using hc⟩).mp (of_decide_eq_true h)
      refine (Ev.comp1 (J := sV) (f := fun k : Nat => lawName ((plc p0 d k : Nat) : Int)) (p := bitN c) (by decide +kernel) (Ev.rangeN (m := 4) (Ev.const_nat 4) rfl rfl) (itr_rangeN (by decide)) (fun k hk => ?_) (fun k hk hb => ?_) (by decide)).cast (lV_eq ?_)
      · exact Tests.one (EvT.nat (Ev.binop (Ev.binop (by walk_at "nm") (by walk_at "nm") op_shrN) (Ev.const_nat 1) op_andN))
      · have hk4 : k < 4 := by simpa using hk
        have e : ((List.range 4).map fun k => lawName ((plc p0 d k : Nat) : Int)).getD k Str.empty = lawName ((plc p0 d k : Nat) : Int) := by simp [List.getD, hk4]
        exact (Ev.subN (by walk_at "nm") (by walk_at "nm") Str.empty (by simpa using hk4) (by simp) rfl).cast (sV_eq e)
      · unfold rowB; rw [if_neg hne]; rfl
    case u2 =>
      have hne : sel 4 (bitN c) = [] := Classical.byContradiction fun h' => absurd ((sel_some ⟨c, by simpa using hc⟩).mpr h') (of_decide_eq_false h)
      refine (Ev.list (K := sV) (l := [Str.ofString "0x0"]) (.cons ⟨rfl, Ev.const_str⟩ .nil) (by walk_at "sz")).cast (lV_eq ?_)
      unfold rowB; rw [if_pos hne]
    · simp at h
    refine go_nx ?_
    -- the last call
    have P := S.cst.pre
    refine ⟨wpAny_execs_cons (wpAny_Return_some (Call_Name rfl (wpAny_Name (load_global P rfl (P.base.gd.fn ("_law_refused", 63) (by show _ ∈ F02; decide +kernel)) ?_) rfl)))⟩
    show wpAny _ _ (callWith _ (.ref 63) _ _ _) _ _ _
    refine' callWith_def ?hdd ?main rfl
    case main =>
      rw [starEach_cons rfl, backTo_cons]
      refine Calls.spliced_cons (wpAny_List (wpAny_pure ⟨Nat.zero_le _, Calls.spliced_nil ?_⟩))
      have S₂ := S.keeps (s' := { s' with heap := s'.heap.push { cls := .type "list", data := .seq ([] : List Value).toArray } }) keeps_push
      refine ⟨S₂.cst.pre.base.gd.frag 63 _ rfl, wpAny_call ?_⟩
      obtain ⟨m, hm⟩ := S₂.cst.ns
      have hlt := hm.lt
      have hsz := S.cst.kept.size
      have hL : F.env.locals < s'.heap.objs.size := by
        obtain ⟨m', hm'⟩ := S.cst.ns
        exact hm'.lt
      rw [hA]
      subst hs₀
      refine codeAny_mono (call_refused w s₀ mg mb F.s₀.heap B.gd.frag TB F.env _ s'.heap.objs.size F.env.locals m hfr (by rw [S.cst.is.eq]) ⟨hm, fun b o e => keeps_get S₂.cst.kept b o e, S.cst.nsNew⟩ (fun p hp => ?_)) fun r s'' hr => ?_
      · rw [List.mem_singleton.mp hp]
        exact ⟨Heap.get?_push_size _ rfl, Nat.ne_of_gt hL, Heap.get?_none_of_le hsz⟩
      · obtain ⟨h1, h2, h3, h4⟩ := hr
        subst h1
        obtain ⟨h', tk, e, _⟩ := S.cst.kept.keeps
        exact ⟨_, rfl, rfl, h2, h3.trans (by rw [e]), h4.trans (by rw [e])⟩
    case hdd => rfl
end
end Mine
open PySem PySem.W PyProof.Rows
set_option Elab.async false
namespace Mine
theorem mg_of {h : Heap} {mg : Str → Option Value} (hn : h.Ns mainGlobals mg) {o : Obj} {es : Array DictEntry} {ep : Nat} (ho : h.get? mainGlobals = some o) (hd : o.data = .dict es ep) (x : Str) : mg x = nsFind es x := by
  obtain ⟨o', es', ep', ho', hd', _, hm⟩ := hn
  rw [ho] at ho'; cases ho'
  rw [hd] at hd'; cases hd'
  exact (hm x).symm
set_option maxRecDepth 100000 in
theorem gd02 {w : World} {mg mb : Str → Option Value} {h : Heap} (K : (hd02.heap_39 w.params).In h) (g : h.Ns mainGlobals mg) (b : h.Ns builtinsNs mb) (bl : ∀ x : Str, x ≠ "__name__" → mb x = bootBuiltins x) (lim : h.NoLimit) : Gd (X02 w mg mb) h ∧ mg "law" = some (.ref 68) := by
  have hm := fun x => mg_of g (K 3 _ rfl) rfl x
  refine ⟨⟨g, b, bl, lim, K, fun f hf => ?_, fun p hp => ?_⟩, ?_⟩
  · show mg f = none
    rw [hm]
    simp only [bnames, List.mem_cons, List.not_mem_nil, or_false] at hf
    rcases hf with rfl | rfl | rfl | rfl | rfl | rfl | rfl | rfl <;> kernel_rfl
  · show mg p.1 = some (.ref p.2)
    rw [hm]
    have hp : p ∈ F02 := hp
    simp only [F02, List.mem_cons, List.not_mem_nil, or_false] at hp
    rcases hp with rfl | rfl | rfl | rfl | rfl | rfl <;> kernel_rfl
  · rw [hm]; kernel_rfl
theorem wv_of {h : Heap} {a : Addr} {o : Obj} {vs : List Value} {k : Nat} {ns : List Int} (ho : h.get? a = some o) (hc : o.cls = .type "list") (hd : o.data = .seq vs.toArray k) (hI : IntsAre vs ns) : (wV iV ns).holds (vw [] h) (.ref a) :=
  ⟨a, o, vs, k, rfl, vw_some.mpr ⟨by simp, ho⟩, hc, hd, paired_of_ints hI⟩
theorem post_of (R : WRecords) (args ds : List WData) : (WShape.has R (WData.bool true) .bool && WTm.holds R (WTm.eq .res (.lit (.bool true))) { args := args, res := some (.bool true), after := ds }) = true := by
  have h : WTm.holds R (WTm.eq .res (.lit (.bool true))) { args := args, res := some (.bool true), after := ds } = true := by
    unfold WTm.holds
    rw [w_eq (w_res rfl) w_lit, show same (WData.bool true) (WData.bool true) = true by decide +kernel]
  have h2 : WShape.has R (WData.bool true) .bool = true := by
    unfold WShape.has
    rfl
  rw [h, h2]; rfl
end Mine
set_option maxRecDepth 100000 in
set_option maxHeartbeats 8000000 in
theorem PySem.Challenge.cw_rl0018_02_holds : PySem.Challenge.rw_rl0018_02.Holds := by
  refine Mine.hd02 ?_
  intro w s₀ s₁ mg mb G Y fa o pm cd doc dV kV ho hd hcd hD hmg hg args vals as hpre hlay hrd hwl hlo
  have KX := kIn_of Y
  have T := G.T
  wrow_args hpre hlay hrd hwl hlo
  have hI := ‹IntsAre _ _›
  have hL := ‹Heap.IsList _ _ _›
  have hc := ‹¬ _ < _›
  obtain ⟨gd, hlaw⟩ := Mine.gd02 KX T.g T.b T.builtins T.nolimit
  have hfa : fa = 68 := by
    have : mg "law" = some (.ref fa) := hmg
    rw [hlaw] at this
    cases this; rfl
  subst hfa
  obtain ⟨o', ho', hc', k', hd'⟩ := hL
  have hlen := Int.ofNat_le.mp (Int.not_lt.mp hc)
  have B : Mine.Base (Mine.X02 w mg mb) 2 callerA [] s₁ := ⟨⟨rfl, by decide, by decide⟩, gd, fun a ha => nomatch ha⟩
  have hv := Mine.wv_of ho' hc' hd' hI
  refine wpAny_mono (Mine.law02_call (n := 0) (w := w) (mg := mg) (mb := mb) (s₀ := s₀) T hlen B hv) (fun v s' hr => ?_) fun _ _ e => e
  obtain ⟨hb, hkeep, hgens, hos⟩ := hr
  subst hb
  refine GoodW.toG ⟨.inl ⟨.bool true, .bool true, [], rfl, fun _ => rfl, .bool true, ?_, fun _ => ⟨List.nodup_nil, fun _ h => nomatch h⟩⟩, hkeep, hos, hgens.trans hg⟩
  exact Mine.post_of _ _ _
