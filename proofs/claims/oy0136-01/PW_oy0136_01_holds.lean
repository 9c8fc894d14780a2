import PyProof.Rows.All
import Wide.All
import OpenK.AllK
import Wide.FinOn
import PySem.Challenge.RW_oy0136_01
set_option Elab.async false
section
open PySem PySem.W PyProof.Rows
set_option Elab.async false
set_option maxRecDepth 100000
set_option maxHeartbeats 8000000
namespace Mine
def some5 (l : List Stmt) : List Stmt := (l.take 2).drop 1 ++ ((l.take 4).drop 3 ++ ((l.take 7).drop 5 ++ ((l.take 31).drop 8 ++ l.drop 32)))
def vw : Program := { PySem.Challenge.pw_oy0136_01 with main := { PySem.Challenge.pw_oy0136_01.main with body := some5 PySem.Challenge.pw_oy0136_01.main.body } }
/-- the head, its top checked at once -/
local macro_rules | `(tactic| o_head $H) => `(tactic| (
  refine holds_open (q := vw) (loose := ["_initial_missing", "reduce", "_filemode_table"]) (Xt := fun s => xlAt vw [] s && recOk (RowW.records (OpenRow.toRowW PySem.Challenge.rw_oy0136_01.row)) s) (XP := XL vw []) (Yf := Hook.obs $H) (Ya := Hook.val $H) (YP := Hook.says $H) (N := 1834)
    ?hl (Hook.of $H) (Hook.keeps $H) (fun s e => xl_of s (Bool.and_eq_true_iff.mp e).1) XL.keeps (by rfl) (by rfl) (by rfl) (fun s e => recFacts_of (Bool.and_eq_true_iff.mp e).2) (by rfl) (by first | assumption | decide +kernel) (by decide +kernel) ⟨rfl, rfl, rfl, rfl, rfl, by decide +kernel⟩ ?hw ?hc;
  (case hl => (intro w; kernel_rfl))))
open_top hd for PySem.Challenge.rw_oy0136_01
end Mine
end
section
open PySem PyProof.Rows
set_option autoImplicit false
namespace Mine

/-- data trees -/
inductive D where
  | none
  | bool (b : Bool)
  | int (i : Int)
  | str (s : Str)
  | bytes (b : Array UInt8)
  | list (l : List D)
  | tup (l : List D)
  | val (v : Value)

abbrev View := Addr → Option Obj

def SeqOf (g : View) (cls : String) (a : Addr) (vs : Array Value) : Prop :=
  ∃ o, g a = some o ∧ o.cls = .type cls ∧ o.dict = none ∧ ∃ n, o.data = .seq vs n

mutual
def Rep (g : View) : D → Value → Prop
  | .none, v => v = .none
  | .bool b, v => v = .bool b
  | .int i, v => ∃ t, v = .int i t
  | .str x, v => ∃ t, v = .str x t
  | .bytes b, v => ∃ t, v = .bytes b t
  | .list ds, v => ∃ a vs, v = .ref a ∧ SeqOf g "list" a vs ∧ Reps g ds vs.toList
  | .tup ds, v => ∃ a vs, v = .ref a ∧ SeqOf g "tuple" a vs ∧ Reps g ds vs.toList
  | .val u, v => v = u
def Reps (g : View) : List D → List Value → Prop
  | [], vs => vs = []
  | d :: ds, vs => ∃ v r, vs = v :: r ∧ Rep g d v ∧ Reps g ds r
end

def Obj.isSeq (o : Obj) : Bool := match o.data with | .seq .. => true | _ => false

def Obj.isFields (o : Obj) : Bool := match o.data with | .fields .. => true | _ => false

/-- every sequence that g knows, g' knows -/
def SeqLe (g g' : View) : Prop := ∀ b o, g b = some o → Obj.isSeq o = true → g' b = some o

theorem SeqLe.refl (g : View) : SeqLe g g := fun _ _ h _ => h
theorem SeqLe.trans {a b c : View} (x : SeqLe a b) (y : SeqLe b c) : SeqLe a c := fun _ _ h k => y _ _ (x _ _ h k) k

theorem SeqOf.mono {g g' : View} {c : String} {a : Addr} {vs : Array Value} (x : SeqOf g c a vs) (l : SeqLe g g') : SeqOf g' c a vs := by
  obtain ⟨o, h, hc, hn, n, hd⟩ := x
  exact ⟨o, l _ _ h (by simp [Obj.isSeq, hd]), hc, hn, n, hd⟩

mutual
theorem Rep.mono {g g' : View} (l : SeqLe g g') : ∀ (d : D) (v : Value), Rep g d v → Rep g' d v
  | .none, _, h => h
  | .bool _, _, h => h
  | .int _, _, h => h
  | .str _, _, h => h
  | .bytes _, _, h => h
  | .val _, _, h => h
  | .list ds, v, h => by
    simp only [Rep] at h ⊢
    obtain ⟨a, vs, e, hs, hr⟩ := h
    exact ⟨a, vs, e, hs.mono l, Reps.mono l ds _ hr⟩
  | .tup ds, v, h => by
    simp only [Rep] at h ⊢
    obtain ⟨a, vs, e, hs, hr⟩ := h
    exact ⟨a, vs, e, hs.mono l, Reps.mono l ds _ hr⟩
theorem Reps.mono {g g' : View} (l : SeqLe g g') : ∀ (ds : List D) (vs : List Value), Reps g ds vs → Reps g' ds vs
  | [], _, h => h
  | d :: ds, vs, h => by
    simp only [Reps] at h ⊢
    obtain ⟨v, r, e, hd, hr⟩ := h
    exact ⟨v, r, e, Rep.mono l d v hd, Reps.mono l ds r hr⟩
end

theorem Reps.length {g : View} : ∀ {ds : List D} {vs : List Value}, Reps g ds vs → vs.length = ds.length
  | [], _, h => by simp only [Reps] at h; subst h; rfl
  | d :: ds, _, h => by
    simp only [Reps] at h
    obtain ⟨v, r, rfl, _, hr⟩ := h
    simp [Reps.length hr]

theorem Reps.get {g : View} : ∀ {ds : List D} {vs : List Value} {i : Nat} {d : D}, Reps g ds vs → ds[i]? = some d → ∃ v, vs[i]? = some v ∧ Rep g d v
  | [], _, _, _, _, hi => by simp at hi
  | d :: ds, _, 0, d', h, hi => by
    simp only [Reps] at h
    obtain ⟨v, r, rfl, hd, _⟩ := h
    simp at hi; subst hi
    exact ⟨v, rfl, hd⟩
  | d :: ds, _, i + 1, d', h, hi => by
    simp only [Reps] at h
    obtain ⟨v, r, rfl, _, hr⟩ := h
    obtain ⟨u, hu, hd⟩ := Reps.get (i := i) hr (by simpa using hi)
    exact ⟨u, by simpa using hu, hd⟩

theorem Reps.append {g : View} : ∀ {ds es : List D} {vs us : List Value}, Reps g ds vs → Reps g es us → Reps g (ds ++ es) (vs ++ us)
  | [], _, _, _, h, k => by simp only [Reps] at h; subst h; simpa using k
  | d :: ds, es, _, us, h, k => by
    simp only [Reps] at h
    obtain ⟨v, r, rfl, hd, hr⟩ := h
    simp only [List.cons_append, Reps]
    exact ⟨v, r ++ us, rfl, hd, Reps.append hr k⟩

theorem Reps.of_get {g : View} : ∀ {ds : List D} {vs : List Value}, vs.length = ds.length → (∀ (i : Nat) d v, ds[i]? = some d → vs[i]? = some v → Rep g d v) → Reps g ds vs
  | [], vs, hl, _ => by simp only [Reps]; exact List.eq_nil_of_length_eq_zero hl
  | d :: ds, [], hl, _ => by simp at hl
  | d :: ds, v :: vs, hl, h => by
    simp only [Reps]
    exact ⟨v, vs, rfl, h 0 d v rfl rfl, Reps.of_get (by simpa using hl) fun i d' v' hd hv => h (i + 1) d' v' (by simpa using hd) (by simpa using hv)⟩

/-- the mutable lists that are known -/
abbrev Muts := Addr → Option (List D)
abbrev Vars := Str → Option D

def upd (μ : Vars) (x : Str) (d : D) : Vars := fun y => if y = x then some d else μ y
def updM (ν : Muts) (a : Addr) (l : List D) : Muts := fun b => if b = a then some l else ν b
open Classical in
/-- what is to be read as data: neither hidden (H) nor a known mutable list -/
noncomputable def mask (H : Addr → Prop) (ν : Muts) (h : Heap) : View := fun a => if H a ∨ (ν a).isSome = true then none else h.get? a

/-- all that stood in hL (but the three tables of inner code) stands -/
def tabs : List Addr := [122, 98, 143]
structure Lib (hL h : Heap) : Prop where
  get : ∀ b o, b ∉ tabs → hL.get? b = some o → h.get? b = some o
  tab : ∀ t ∈ tabs, (h.get? t).isSome = true

theorem Lib.mono {hL h h' : Heap} (l : Lib hL h) (k : ∀ b o, h.get? b = some o → h'.get? b = some o) : Lib hL h' :=
  ⟨fun b o hb e => k b o (l.get b o hb e), fun t ht => by
    obtain ⟨o, e⟩ := Option.isSome_iff_exists.mp (l.tab t ht)
    rw [k t o e]; rfl⟩
theorem Lib.fresh {hL h : Heap} {a : Addr} (l : Lib hL h) (e : h.get? a = none) : hL.get? a = none := by
  cases q : hL.get? a with
  | none => rfl
  | some o =>
    by_cases ht : a ∈ tabs
    · have := l.tab a ht; rw [e] at this; cases this
    · rw [l.get a o ht q] at e; cases e
theorem fresh_size {h : Heap} {a : Addr} (ha : h.objs.size ≤ a) : h.get? a = none := by
  cases e : h.get? a with
  | none => rfl
  | some o => exact absurd (Heap.lt_size e) (Nat.not_lt.mpr ha)

def isVarKind (k : Option NameKind) : Prop := k = some .cell ∨ k = some .free

structure Cx where
  prog : Program
  w : World
  A : Around
  hL : Heap
  s₀ : Shared
  /-- what stood at the start and may be changed -/
  X : Addr → Prop
  /-- what is not to be read as data -/
  H : Addr → Prop
  /-- sequences and records that stay as they are -/
  g : View
  env : Env
  /-- the cells that may be stored -/
  st : Str → Bool
  /-- the lists that were known at the start -/
  N : Addr → Prop

abbrev Cx.M (c : Cx) : Model := model c.prog c.w

structure FD (c : Cx) (μ : Vars) (ν : Muts) (s : Shared) : Prop where
  same : ∃ h tk, s = { c.s₀ with heap := h, toks := tk }
  keep : ∀ b o, ¬ c.X b → c.s₀.heap.get? b = some o → s.heap.get? b = some o
  live : ∀ b o, c.s₀.heap.get? b = some o → (s.heap.get? b).isSome = true
  lib : Lib c.hL s.heap
  fn : c.env.scope.kind = .function
  hid : ∀ a, c.H a → (s.heap.get? a).isSome = true
  hidL : ∀ a, c.H a → c.hL.get? a = none
  mutH : ∀ a, (ν a).isSome = true → ¬ c.H a
  froz : ∀ a o, c.g a = some o → s.heap.get? a = some o ∧ (Obj.isSeq o = true ∨ Obj.isFields o = true)
  frozM : ∀ a l, ν a = some l → c.g a = none
  dom : ∀ a, c.N a → (ν a).isSome = true
  newM : ∀ a, (ν a).isSome = true → c.N a ∨ c.s₀.heap.get? a = none
  freshL : c.hL.get? c.env.locals = none ∧ c.s₀.heap.get? c.env.locals = none
  freshC : ∀ n a, c.st n = true → c.env.cells.lookup n = some a → c.hL.get? a = none ∧ c.s₀.heap.get? a = none
  apart : ∀ n n' a, c.env.cells.lookup n = some a → c.env.cells.lookup n' = some a → n = n'
  vars : ∃ (m cm : Str → Option Value), s.heap.Ns c.env.locals m ∧ (∀ n a, c.env.cells.lookup n = some a → s.heap.IsCell a (cm n)) ∧
    ∀ x d, μ x = some d → ∃ v, Rep (mask c.H ν s.heap) d v ∧ ((c.env.kindOf x = some .local ∧ m x = some v) ∨ (isVarKind (c.env.kindOf x) ∧ (c.env.cells.lookup x).isSome = true ∧ cm x = some v))
  muts : ∀ a l, ν a = some l → c.hL.get? a = none ∧ ∃ vs, s.heap.PlainList a vs ∧ Reps (mask c.H ν s.heap) l vs.toList

abbrev Cx.F (c : Cx) (μ : Vars) (ν : Muts) (s : Shared) : Prop := FD c μ ν s

variable {c : Cx} {μ : Vars} {ν : Muts} {s : Shared}

def Kp (s s' : Shared) : Prop := PySem.Keeps s s'
theorem Kp.refl (s : Shared) : Kp s s := ⟨s.heap, s.toks, rfl, fun _ _ h => h⟩
theorem Kp.trans {a b c : Shared} (x : Kp a b) (y : Kp b c) : Kp a c := by
  obtain ⟨h, tk, rfl, k⟩ := x
  obtain ⟨h', tk', rfl, k'⟩ := y
  exact ⟨h', tk', rfl, fun b o e => k' b o (k b o e)⟩
theorem Kp.get {a b : Shared} (x : Kp a b) : ∀ c o, a.heap.get? c = some o → b.heap.get? c = some o := by
  obtain ⟨h, tk, rfl, k⟩ := x; exact k
theorem Kp.tok (s : Shared) (t : Nat) : Kp s { s with toks := t } := ⟨s.heap, t, rfl, fun _ _ h => h⟩
theorem Kp.push (s : Shared) (o : Obj) (t : Nat) : Kp s { s with heap := s.heap.push o, toks := t } := ⟨_, t, rfl, fun _ _ h => Heap.get?_push_of_some o h⟩

theorem mask_some {H : Addr → Prop} {ν : Muts} {h : Heap} {b : Addr} {o : Obj} : mask H ν h b = some o ↔ (¬ H b ∧ ν b = none ∧ h.get? b = some o) := by
  unfold mask
  by_cases hb : H b ∨ (ν b).isSome = true
  · rw [if_pos hb]
    constructor
    · intro e; cases e
    · rintro ⟨h1, h2, _⟩
      rcases hb with hb | hb
      · exact absurd hb h1
      · rw [h2] at hb; cases hb
  · rw [if_neg hb]
    constructor
    · intro e
      refine ⟨fun x => hb (Or.inl x), ?_, e⟩
      cases hv : ν b with
      | none => rfl
      | some l => exact absurd (Or.inr (by rw [hv]; rfl)) hb
    · exact fun e => e.2.2
theorem mask_le {H : Addr → Prop} {ν : Muts} {h h' : Heap} (k : ∀ b o, ν b = none → Obj.isSeq o = true → h.get? b = some o → h'.get? b = some o) : SeqLe (mask H ν h) (mask H ν h') := by
  intro b o hb hs
  rw [mask_some] at hb ⊢
  exact ⟨hb.1, hb.2.1, k b o hb.2.1 hs hb.2.2⟩
theorem mask_keeps {H : Addr → Prop} {ν : Muts} {s s' : Shared} (k : Kp s s') : SeqLe (mask H ν s.heap) (mask H ν s'.heap) := mask_le fun b o _ _ e => k.get b o e

theorem Rep.keeps {H : Addr → Prop} {ν : Muts} {s s' : Shared} {d : D} {v : Value} (h : Rep (mask H ν s.heap) d v) (k : Kp s s') : Rep (mask H ν s'.heap) d v := Rep.mono (mask_keeps k) d v h
theorem Reps.keeps {H : Addr → Prop} {ν : Muts} {s s' : Shared} {d : List D} {v : List Value} (h : Reps (mask H ν s.heap) d v) (k : Kp s s') : Reps (mask H ν s'.heap) d v := Reps.mono (mask_keeps k) d v h

/-- a frame stands under whatever keeps all -/
theorem FD.keeps {s' : Shared} (F : c.F μ ν s) (k : Kp s s') : c.F μ ν s' where
  same := by
    obtain ⟨h, tk, rfl⟩ := F.same
    obtain ⟨h', tk', rfl, _⟩ := k
    exact ⟨h', tk', rfl⟩
  keep := fun b o hb e => k.get b o (F.keep b o hb e)
  live := fun b o e => by
    obtain ⟨o', e'⟩ := Option.isSome_iff_exists.mp (F.live b o e)
    rw [k.get b o' e']; rfl
  froz := fun a o e => ⟨k.get a o (F.froz a o e).1, (F.froz a o e).2⟩
  frozM := F.frozM
  dom := F.dom
  newM := F.newM
  lib := F.lib.mono k.get
  fn := F.fn
  hidL := F.hidL
  mutH := F.mutH
  hid := fun a ha => by
    obtain ⟨o, e⟩ := Option.isSome_iff_exists.mp (F.hid a ha)
    rw [k.get a o e]; rfl
  freshL := F.freshL
  freshC := F.freshC
  apart := F.apart
  vars := by
    obtain ⟨m, cm, hn, hc, hv⟩ := F.vars
    exact ⟨m, cm, hn.keeps k.get, fun n c e => (hc n c e).keeps k.get, fun x d e => by
      obtain ⟨v, hr, hw⟩ := hv x d e
      exact ⟨v, hr.keeps k, hw⟩⟩
  muts := fun a l e => by
    obtain ⟨h1, vs, hp, hr⟩ := F.muts a l e
    exact ⟨h1, vs, hp.at fun o e => k.get a o e, hr.keeps k⟩

end Mine
end
section
open PySem PyProof.Rows
set_option autoImplicit false
namespace Mine

abbrev Post (c : Cx) (ν : Muts) (s : Shared) (d : D) : Value → Shared → Prop := fun v s' => Kp s s' ∧ Rep (mask c.H ν s'.heap) d v

/-- the expression e, in this frame, comes to the data d; all is kept -/
def Ev (c : Cx) (μ : Vars) (ν : Muts) (e : Expr) (d : D) : Prop :=
  ∀ s E, c.F μ ν s → wpAny c.M c.A (eval e c.env) (Post c ν s d) E s
/-- the truth of e -/
def EvB (c : Cx) (μ : Vars) (ν : Muts) (e : Expr) (b : Bool) : Prop :=
  ∀ s E, c.F μ ν s → wpAny c.M c.A (isTrue e c.env (eval e c.env)) (fun t s' => Kp s s' ∧ t = b) E s

variable {c : Cx} {μ : Vars} {ν : Muts}

theorem Ev.name {x : Str} {pos : Pos} {d : D} (hx : μ x = some d) (hd : (x == ("__debug__" : Str)) = false := by decide) (hcd : (x == ("__classdict__" : Str)) = false := by decide) :
    Ev c μ ν (.Name x pos) d := by
  intro s E F
  obtain ⟨m, cm, hn, hc, hv⟩ := F.vars
  obtain ⟨v, hr, hw⟩ := hv x d hx
  refine wpAny_Name ?_ hd
  rcases hw with ⟨hk, hm⟩ | ⟨hk, hsome, hm⟩
  · exact wpAny_loadName_local F.fn hk hn hm ⟨Kp.refl s, hr⟩
  · obtain ⟨a, ha⟩ := Option.isSome_iff_exists.mp hsome
    rcases hk with hk | hk
    · exact wpAny_loadName_cell F.fn hk ha (hm ▸ hc x a ha) ⟨Kp.refl s, hr⟩
    · exact wpAny_loadName_free F.fn hk ha (hm ▸ hc x a ha) ⟨Kp.refl s, hr⟩ hcd

/-- a name of the module or a built-in -/
def GName (hL : Heap) (env : Env) (x : Str) (v : Value) : Prop :=
  ∃ m, hL.Ns env.globals m ∧ (m x = some v ∨ (m x = none ∧ ∃ mb, hL.Ns env.builtins mb ∧ mb x = some v))

theorem Lib.ns {hL h : Heap} {a : Addr} {m : Str → Option Value} (l : Lib hL h) (ha : a ∉ tabs) (x : hL.Ns a m) : h.Ns a m :=
  x.at' fun o e => l.get a o ha e

theorem Ev.glob {x : Str} {pos : Pos} {v : Value} (hg : GName c.hL c.env x v) (hk : c.env.kindOf x = some .globalImplicit) (hG : c.env.globals ∉ tabs) (hB : c.env.builtins ∉ tabs)
    (hd : (x == ("__debug__" : Str)) = false := by decide) : Ev c μ ν (.Name x pos) (.val v) := by
  intro s E F
  refine wpAny_Name ?_ hd
  have hL : loadName c.env x = loadGlobal c.env x := by
    unfold loadName
    simp only [Env.blockKind, F.fn, hk, ScopeKind.isAnnotationScope, Bool.false_and, Bool.false_eq_true, if_false]
  rw [hL]
  unfold loadGlobal
  obtain ⟨m, hn, hm⟩ := hg
  refine wpAny_bind (wpAny_nsGet (F.lib.ns hG hn) ?_)
  rcases hm with hm | ⟨hm, mb, hb, hmb⟩
  · rw [hm]; exact wpAny_pure ⟨Kp.refl s, rfl⟩
  · rw [hm]
    refine wpAny_bind (wpAny_nsGet (F.lib.ns hB hb) ?_)
    rw [hmb]; exact wpAny_pure ⟨Kp.refl s, rfl⟩

theorem Ev.int {i : Int} {k : Nat} {pos : Pos} : Ev c μ ν (.Constant (.int i) k pos) (.int i) := fun s _ _ => wpAny_Constant_int ⟨Kp.tok s _, ⟨_, rfl⟩⟩
theorem Ev.str {x : Str} {k : Nat} {pos : Pos} : Ev c μ ν (.Constant (.str x) k pos) (.str x) := fun s _ _ => wpAny_Constant_str ⟨Kp.tok s _, ⟨_, rfl⟩⟩
theorem Ev.nonec {k : Nat} {pos : Pos} : Ev c μ ν (.Constant .none k pos) .none := fun s _ _ => wpAny_Constant_none ⟨Kp.refl s, rfl⟩
theorem Ev.boolc {b : Bool} {k : Nat} {pos : Pos} : Ev c μ ν (.Constant (.bool b) k pos) (.bool b) := fun s _ _ => wpAny_Constant_bool ⟨Kp.refl s, rfl⟩

/-- an operation upon two values -/
def Op2 (c : Cx) (μ : Vars) (ν : Muts) (t : Value → Value → Sem Value) (d₁ d₂ d : D) : Prop :=
  ∀ s E a b, c.F μ ν s → Rep (mask c.H ν s.heap) d₁ a → Rep (mask c.H ν s.heap) d₂ b → wpAny c.M c.A (t a b) (Post c ν s d) E s

theorem Post.trans {s s' : Shared} {d : D} (k : Kp s s') {v : Value} {s'' : Shared} (h : Post c ν s' d v s'') : Post c ν s d v s'' := ⟨k.trans h.1, h.2⟩

theorem Ev.bin {l r : Expr} {op : Operator} {pos : Pos} {d₁ d₂ d : D} (hl : Ev c μ ν l d₁) (hr : Ev c μ ν r d₂) (ho : Op2 c μ ν (binaryOp op) d₁ d₂ d) :
    Ev c μ ν (.BinOp l op r pos) d := by
  intro s E F
  refine wpAny_BinOp (wpAny_mono (hl s E F) (fun a s₁ h₁ => ?_) fun _ _ e => e)
  refine wpAny_mono (hr s₁ E (F.keeps h₁.1)) (fun b s₂ h₂ => ?_) fun _ _ e => e
  exact wpAny_mono (ho s₂ E a b (F.keeps (h₁.1.trans h₂.1)) (h₁.2.keeps h₂.1) h₂.2) (fun v s₃ h₃ => Post.trans (h₁.1.trans h₂.1) h₃) fun _ _ e => e

theorem Ev.cmp {l r : Expr} {op : CmpOp} {pos : Pos} {d₁ d₂ d : D} (hl : Ev c μ ν l d₁) (hr : Ev c μ ν r d₂) (ho : Op2 c μ ν (compareOp op) d₁ d₂ d)
    (hm : behindInMarks op r = false := by with_unfolding_all rfl) : Ev c μ ν (.Compare l [op] [r] pos) d := by
  intro s E F
  refine wpAny_Compare1 (wpAny_mono (hl s E F) (fun a s₁ h₁ => ?_) fun _ _ e => e) hm
  refine wpAny_mono (hr s₁ E (F.keeps h₁.1)) (fun b s₂ h₂ => ?_) fun _ _ e => e
  exact wpAny_mono (ho s₂ E a b (F.keeps (h₁.1.trans h₂.1)) (h₁.2.keeps h₂.1) h₂.2) (fun v s₃ h₃ => Post.trans (h₁.1.trans h₂.1) h₃) fun _ _ e => e

theorem EvB.cmp {l r : Expr} {op : CmpOp} {pos : Pos} {d₁ d₂ : D} {b : Bool} (hl : Ev c μ ν l d₁) (hr : Ev c μ ν r d₂) (ho : Op2 c μ ν (compareOp op) d₁ d₂ (.bool b))
    (hm : behindInMarks op r = false := by with_unfolding_all rfl) : EvB c μ ν (.Compare l [op] [r] pos) b := by
  intro s E F
  refine wpAny_isTrue_Compare1 (wpAny_mono (hl s E F) (fun a s₁ h₁ => ?_) fun _ _ e => e) hm
  refine wpAny_mono (hr s₁ E (F.keeps h₁.1)) (fun b s₂ h₂ => ?_) fun _ _ e => e
  refine wpAny_mono (ho s₂ E a b (F.keeps (h₁.1.trans h₂.1)) (h₁.2.keeps h₂.1) h₂.2) (fun v s₃ h₃ => ?_) fun _ _ e => e
  obtain ⟨k, hv⟩ := h₃
  simp only [Rep] at hv
  subst hv
  exact wpAny_truthy_bool ⟨(h₁.1.trans h₂.1).trans k, rfl⟩

/-- ints -/
theorem Op2.ofInt {t : Value → Value → Sem Value} {a b : Int} {d : D}
    (h : ∀ s E ta tb, c.F μ ν s → wpAny c.M c.A (t (.int a ta) (.int b tb)) (Post c ν s d) E s) : Op2 c μ ν t (.int a) (.int b) d := by
  intro s E x y F hx hy
  simp only [Rep] at hx hy
  obtain ⟨ta, rfl⟩ := hx
  obtain ⟨tb, rfl⟩ := hy
  exact h s E ta tb F

theorem op_add {a b : Int} : Op2 c μ ν (binaryOp .Add) (.int a) (.int b) (.int (a + b)) := .ofInt fun s _ _ _ _ => P.add_int ⟨Kp.tok s _, ⟨_, rfl⟩⟩
theorem op_sub {a b : Int} : Op2 c μ ν (binaryOp .Sub) (.int a) (.int b) (.int (a - b)) := .ofInt fun s _ _ _ _ => P.sub_int ⟨Kp.tok s _, ⟨_, rfl⟩⟩
theorem op_mul {a b : Int} (hm : IntMulOk a b) : Op2 c μ ν (binaryOp .Mult) (.int a) (.int b) (.int (a * b)) := .ofInt fun s _ _ _ _ => P.mul_int ⟨Kp.tok s _, ⟨_, rfl⟩⟩ hm
theorem op_mod {a b : Int} (hb : 0 < b) : Op2 c μ ν (binaryOp .Mod) (.int a) (.int b) (.int (a % b)) := .ofInt fun s _ _ _ _ =>
  mod_int' (by omega) ⟨Kp.tok s _, ⟨_, by rw [Int.fmod_eq_emod_of_nonneg _ (by omega)]⟩⟩
theorem op_div {a b : Int} (hb : 0 < b) (hp : Builtin.divisionGoesByPylong a b = false) : Op2 c μ ν (binaryOp .FloorDiv) (.int a) (.int b) (.int (a / b)) := .ofInt fun s _ _ _ _ =>
  floordiv_int (by omega) ⟨Kp.tok s _, ⟨_, by rw [Int.fdiv_eq_ediv_of_nonneg _ (by omega)]⟩⟩ (Or.inl hp)
theorem op_pow {a b : Int} (hb : 0 ≤ b) (hsz : (Builtin.Int.intBits a : Int) * b ≤ 2 ^ 27) : Op2 c μ ν (binaryOp .Pow) (.int a) (.int b) (.int (a ^ b.toNat)) := .ofInt fun s _ _ _ _ =>
  pow_int hb hsz ⟨Kp.tok s _, ⟨_, rfl⟩⟩
theorem op_and {a b : Int} : Op2 c μ ν (binaryOp .BitAnd) (.int a) (.int b) (.int (Builtin.bitAnd a b)) := .ofInt fun s _ _ _ _ => and_int ⟨Kp.tok s _, ⟨_, rfl⟩⟩
theorem op_lt {a b : Int} : Op2 c μ ν (compareOp .Lt) (.int a) (.int b) (.bool (decide (a < b))) := .ofInt fun s _ _ _ _ => PyProof.Rows.lt_int ⟨Kp.refl s, rfl⟩
theorem op_ge {a b : Int} : Op2 c μ ν (compareOp .GtE) (.int a) (.int b) (.bool (decide (b ≤ a))) := .ofInt fun s _ _ _ _ => P.ge_int ⟨Kp.refl s, rfl⟩
theorem op_eq {a b : Int} : Op2 c μ ν (compareOp .Eq) (.int a) (.int b) (.bool (a == b)) := .ofInt fun s _ _ _ _ => PyProof.Rows.eq_int ⟨Kp.refl s, rfl⟩

end Mine
end
section
open PySem PyProof.Rows
set_option autoImplicit false
namespace Mine
variable {c : Cx} {μ : Vars} {ν : Muts}

theorem SeqOf.at {H : Addr → Prop} {ν : Muts} {h : Heap} {cls : String} {a : Addr} {vs : Array Value} (x : SeqOf (mask H ν h) cls a vs) : ∃ o, h.get? a = some o ∧ o.cls = .type cls ∧ ∃ n, o.data = .seq vs n := by
  obtain ⟨o, e, r, _, r'⟩ := x
  exact ⟨o, (mask_some.mp e).2.2, r, r'⟩
theorem SeqOf.isList {H : Addr → Prop} {ν : Muts} {h : Heap} {a : Addr} {vs : Array Value} (x : SeqOf (mask H ν h) "list" a vs) : h.IsList a vs := x.at

/-- d is a list that holds ds: data, or a known mutable one -/
inductive LD (ν : Muts) : D → List D → Prop
  | data (ds : List D) : LD ν (.list ds) ds
  | known (a : Addr) (ds : List D) : ν a = some ds → LD ν (.val (.ref a)) ds

theorem LD.open {d : D} {ds : List D} {s : Shared} {v : Value} (h : LD ν d ds) (F : c.F μ ν s) (r : Rep (mask c.H ν s.heap) d v) :
    ∃ a vs, v = .ref a ∧ s.heap.IsList a vs ∧ Reps (mask c.H ν s.heap) ds vs.toList := by
  cases h with
  | data => 
    simp only [Rep] at r
    obtain ⟨a, vs, e, hs, hr⟩ := r
    exact ⟨a, vs, e, hs.isList, hr⟩
  | known a _ hν =>
    simp only [Rep] at r
    obtain ⟨_, vs, hp, hr⟩ := F.muts a ds hν
    exact ⟨a, vs, r, hp.isList, hr⟩

theorem mask_push {H : Addr → Prop} {h : Heap} {o : Obj} : SeqLe (mask H ν h) (mask H ν (h.push o)) := mask_le fun _ _ _ _ e => Heap.get?_push_of_some o e

/-- an address beyond the heap is no mutable one -/
theorem FD.mut_lt {s : Shared} {a : Addr} {l : List D} (F : c.F μ ν s) (h : ν a = some l) : a < s.heap.objs.size := by
  obtain ⟨_, vs, ⟨n, hp⟩, _⟩ := F.muts a l h
  exact Heap.lt_size hp
theorem FD.mut_none {s : Shared} {a : Addr} (F : c.F μ ν s) (h : s.heap.objs.size ≤ a) : ν a = none := by
  cases e : ν a with
  | none => rfl
  | some l => exact absurd (FD.mut_lt F e) (Nat.not_lt.mpr h)

theorem FD.hid_lt {s : Shared} {a : Addr} (F : c.F μ ν s) (h : c.H a) : ¬ s.heap.objs.size ≤ a := by
  obtain ⟨o, e⟩ := Option.isSome_iff_exists.mp (F.hid a h)
  exact Nat.not_le.mpr (Heap.lt_size e)

/-- a list just laid -/
theorem rep_newList {s : Shared} {ds : List D} {vs : Array Value} {n : Nat} (F : c.F μ ν s) (h : Reps (mask c.H ν s.heap) ds vs.toList) :
    Rep (mask c.H ν (s.heap.push { cls := .type "list", data := .seq vs n })) (.list ds) (.ref s.heap.objs.size) := by
  simp only [Rep]
  refine ⟨_, vs, rfl, ⟨{ cls := .type "list", data := .seq vs n }, ?_, rfl, rfl, n, rfl⟩, Reps.mono mask_push _ _ h⟩
  exact mask_some.mpr ⟨fun hh => FD.hid_lt F hh (Nat.le_refl _), FD.mut_none F (Nat.le_refl _), Heap.get?_push_size _ rfl⟩

/-- several expressions in turn -/
def EvL (c : Cx) (μ : Vars) (ν : Muts) (pos : Pos) (es : List Expr) (ds : List D) : Prop :=
  ∀ s E, c.F μ ν s → wpAny c.M c.A (spliced (backTo pos (starEach es c.env))) (fun vs s' => Kp s s' ∧ Reps (mask c.H ν s'.heap) ds vs) E s

theorem EvL.nil {pos : Pos} : EvL c μ ν pos [] [] := fun s _ _ => wpAny_items_nil ⟨Kp.refl s, rfl⟩
theorem EvL.cons {pos : Pos} {e : Expr} {es : List Expr} {d : D} {ds : List D} (h : Ev c μ ν e d) (hs : EvL c μ ν pos es ds)
    (he : starEach (e :: es) c.env = (false, eval e c.env) :: starEach es c.env := by rfl) : EvL c μ ν pos (e :: es) (d :: ds) := by
  intro s E F
  refine wpAny_items_cons (wpAny_mono (h s E F) (fun v s₁ h₁ => ?_) fun _ _ e => e) he
  refine wpAny_mono (hs s₁ E (F.keeps h₁.1)) (fun vs s₂ h₂ => ⟨h₁.1.trans h₂.1, ?_⟩) fun _ _ e => e
  simp only [Reps]
  exact ⟨v, vs, rfl, h₁.2.keeps h₂.1, h₂.2⟩

theorem Ev.list {pos : Pos} {es : List Expr} {ds : List D} (h : EvL c μ ν pos es ds) (hsz : ds.length ≤ 16777216 := by simp) : Ev c μ ν (.List es pos) (.list ds) := by
  intro s E F
  refine wpAny_List (wpAny_mono (h s E F) (fun vs s₁ h₁ => ⟨by rw [h₁.2.length, sizeLine_eq]; exact hsz, h₁.1.trans ⟨_, s₁.toks, rfl, fun _ _ e => Heap.get?_push_of_some _ e⟩, ?_⟩) fun _ _ e => e)
  exact rep_newList (F.keeps h₁.1) (by simpa using h₁.2)

/-- the tail of a subscript -/
theorem Ev.sub {value slice : Expr} {pos : Pos} {d₁ d₂ d : D} (hv : Ev c μ ν value d₁) (hi : Ev c μ ν slice d₂)
    (ho : ∀ s E a b, c.F μ ν s → Rep (mask c.H ν s.heap) d₁ a → Rep (mask c.H ν s.heap) d₂ b → wpAny c.M c.A (subscriptTail value slice a b) (Post c ν s d) E s) :
    Ev c μ ν (.Subscript value slice pos) d := by
  intro s E F
  refine Subscript_ (wpAny_mono (hv s E F) (fun a s₁ h₁ => ?_) fun _ _ e => e)
  refine wpAny_mono (hi s₁ E (F.keeps h₁.1)) (fun b s₂ h₂ => ?_) fun _ _ e => e
  exact wpAny_mono (ho s₂ E a b (F.keeps (h₁.1.trans h₂.1)) (h₁.2.keeps h₂.1) h₂.2) (fun v s₃ h₃ => Post.trans (h₁.1.trans h₂.1) h₃) fun _ _ e => e

theorem Ev.item {value slice : Expr} {pos : Pos} {d₁ d : D} {ds : List D} {k : Int} (hv : Ev c μ ν value d₁) (hi : Ev c μ ν slice (.int k)) (hl : LD ν d₁ ds) (h0 : 0 ≤ k) (hx : ds[k.toNat]? = some d)
    (hsz : ds.length ≤ 16777216)
    (hs : ∀ o i, subscripted slice false o i = operate [o, i] (getItem o i) := by intro _ _; with_unfolding_all rfl) : Ev c μ ν (.Subscript value slice pos) d := by
  refine Ev.sub hv hi fun s E a b F ra rb => ?_
  obtain ⟨l, vs, rfl, hL, hr⟩ := hl.open F ra
  simp only [Rep] at rb
  obtain ⟨t, rfl⟩ := rb
  obtain ⟨v, hvx, hd⟩ := hr.get hx
  have hlt : k.toNat < ds.length := (List.getElem?_eq_some_iff.mp hx).1
  refine tail_any hL.typeIs slot_list_getitem.lookup (wpAny_getItem_list hL h0 (by omega) (by simpa using hvx) ⟨Kp.refl s, hd⟩) (hs _ _)

/-- a part of a slice -/
def EvP (c : Cx) (μ : Vars) (ν : Muts) (e : Option Expr) (k : Option Int) : Prop :=
  ∀ s E, c.F μ ν s → wpAny c.M c.A (evalPart e c.env) (fun v s' => Kp s s' ∧ IsPart v k) E s
theorem EvP.none : EvP c μ ν none none := fun s _ _ => by rw [evalPart_none]; exact wpAny_pure ⟨Kp.refl s, .none⟩
theorem EvP.some {e : Expr} {k : Int} (h : Ev c μ ν e (.int k)) : EvP c μ ν (some e) (some k) := fun s E F => by
  rw [evalPart_some]
  refine wpAny_mono (h s E F) (fun v s₁ h₁ => ⟨h₁.1, ?_⟩) fun _ _ e => e
  have := h₁.2
  simp only [Rep] at this
  obtain ⟨t, rfl⟩ := this
  exact .int k t

/-- the items of a slice -/
def pick {α : Type} (xs : List α) (lo hi st : Option Int) : List α :=
  (sliceRange (sliceBounds lo hi st xs.length).1 (sliceBounds lo hi st xs.length).2.1 (sliceBounds lo hi st xs.length).2.2).filterMap (xs[·]?)

theorem Reps.filterMap {g : View} {ds : List D} {vs : List Value} (h : Reps g ds vs) : ∀ (l : List Nat), Reps g (l.filterMap (ds[·]?)) (l.filterMap (vs[·]?))
  | [] => by simp [Reps]
  | i :: l => by
    have ih := Reps.filterMap h l
    cases hd : ds[i]? with
    | none =>
      have hv : vs[i]? = none := by rw [List.getElem?_eq_none_iff] at hd ⊢; rw [h.length]; exact hd
      simp only [List.filterMap_cons, hd, hv]; exact ih
    | some d =>
      obtain ⟨v, hv, hr⟩ := h.get hd
      simp only [List.filterMap_cons, hd, hv, Reps]
      exact ⟨v, _, rfl, hr, ih⟩

theorem pick_rep {g : View} {ds : List D} {vs : Array Value} (h : Reps g ds vs.toList) (lo hi st : Option Int) : Reps g (pick ds lo hi st) (slicePick vs lo hi st).toList := by
  unfold pick slicePick
  have e : vs.size = ds.length := by rw [← h.length]; simp
  rw [e]
  have := h.filterMap (sliceRange (sliceBounds lo hi st ds.length).1 (sliceBounds lo hi st ds.length).2.1 (sliceBounds lo hi st ds.length).2.2)
  simpa using this

theorem Ev.slice {value : Expr} {lower upper step : Option Expr} {p pos : Pos} {d₁ : D} {ds : List D} {lo hi st : Option Int} (hv : Ev c μ ν value d₁) (hl : LD ν d₁ ds)
    (h1 : EvP c μ ν lower lo) (h2 : EvP c μ ν upper hi) (h3 : EvP c μ ν step st) (h0 : st ≠ some 0) (hsz : ds.length ≤ 16777216) :
    Ev c μ ν (.Subscript value (.Slice lower upper step p) pos) (.list (pick ds lo hi st)) := by
  intro s E F
  refine Subscript_ (wpAny_mono (hv s E F) (fun a s₁ k₁ => ?_) fun _ _ e => e)
  refine wpAny_Slice (wpAny_mono (h1 s₁ E (F.keeps k₁.1)) (fun vl s₂ k₂ => ?_) fun _ _ e => e)
  have F2 := (F.keeps k₁.1).keeps k₂.1
  refine wpAny_mono (h2 s₂ E F2) (fun vu s₃ k₃ => ?_) fun _ _ e => e
  have F3 := F2.keeps k₃.1
  refine wpAny_mono (h3 s₃ E F3) (fun vt s₄ k₄ => ?_) fun _ _ e => e
  have F4 := F3.keeps k₄.1
  have K : Kp s₁ s₄ := (k₂.1.trans k₃.1).trans k₄.1
  obtain ⟨l, vs, rfl, hL, hr⟩ := hl.open F4 (k₁.2.keeps K)
  have K5 : Kp s₄ { s₄ with heap := s₄.heap.push { cls := .type "slice", data := .fields #[vl, vu, vt] } } := ⟨_, s₄.toks, rfl, fun _ _ e => Heap.get?_push_of_some _ e⟩
  have F5 := F4.keeps K5
  have hL5 : ({ s₄ with heap := s₄.heap.push { cls := .type "slice", data := .fields #[vl, vu, vt] } } : Shared).heap.IsList l vs := hL.push _
  have hz : vs.size ≤ sizeLine := by
    have e : vs.size = ds.length := by rw [← hr.length]; simp
    rw [e, sizeLine_eq]; exact hsz
  have fin : wpAny c.M c.A (getItem (.ref l) (.ref s₄.heap.objs.size)) (Post c ν s (.list (pick ds lo hi st))) E { s₄ with heap := s₄.heap.push { cls := .type "slice", data := .fields #[vl, vu, vt] } } := by
    refine wpAny_getItem_list_slice hL5 (Heap.IsSliceOf.new ..) k₂.2 k₃.2 k₄.2 h0 ⟨?_, ?_⟩ hz
    · exact ((k₁.1.trans K).trans K5).trans ⟨_, s₄.toks, rfl, fun _ _ e => Heap.get?_push_of_some _ e⟩
    · exact rep_newList F5 (pick_rep (hr.keeps K5) lo hi st)
  cases step with
  | none => exact tail_any hL5.typeIs slot_list_getitem.lookup fin rfl
  | some e => exact tail_any hL5.typeIs slot_list_getitem.lookup fin rfl

/-- calls -/
def CallIs (c : Cx) (μ : Vars) (ν : Muts) (f : Value) (ds : List D) (d : D) : Prop :=
  ∀ s E vs, c.F μ ν s → Reps (mask c.H ν s.heap) ds vs → wpAny c.M c.A (call f vs) (Post c ν s d) E s

theorem Ev.callB {x : Str} {p pos : Pos} {id : String} {e : Expr} {es : List Expr} {ds : List D} {d : D} (hf : Ev c μ ν (.Name x p) (.val (.builtin id))) (ha : EvL c μ ν pos (e :: es) ds)
    (hc : CallIs c μ ν (.builtin id) ds d)
    (he : starEach (e :: es) c.env = (false, eval e c.env) :: starEach es c.env := by rfl) (hp : (backTo pos (starEach es c.env)).any (·.1) = false := by rfl) :
    Ev c μ ν (.Call (.Name x p) (e :: es) [] pos) d := by
  intro s E F
  refine wpAny_Call_NameR (wpAny_mono (hf s E F) (fun f s₁ h₁ => ?_) fun _ _ e => e)
  have hfe := h₁.2
  simp only [Rep] at hfe
  subst hfe
  have ha' := ha s₁ E (F.keeps h₁.1)
  rw [he] at ha' ⊢
  refine Calls.callWith_builtin (show (false || (backTo pos (starEach es c.env)).any (·.1)) = false by rw [hp]; rfl) (Calls.evalArgs_plain (wpAny_mono ha' (fun vs s₂ h₂ => ?_) fun _ _ e => e))
  exact wpAny_mono (hc s₂ E vs (F.keeps (h₁.1.trans h₂.1)) h₂.2) (fun v s₃ h₃ => Post.trans (h₁.1.trans h₂.1) h₃) fun _ _ e => e

theorem Ev.callT {x : Str} {p pos : Pos} {T : String} {e : Expr} {es : List Expr} {ds : List D} {d : D} (hf : Ev c μ ν (.Name x p) (.val (.type T))) (ha : EvL c μ ν pos (e :: es) ds)
    (hc : CallIs c μ ν (.type T) ds d)
    (he : starEach (e :: es) c.env = (false, eval e c.env) :: starEach es c.env := by rfl) (hp : (backTo pos (starEach es c.env)).any (·.1) = false := by rfl) :
    Ev c μ ν (.Call (.Name x p) (e :: es) [] pos) d := by
  intro s E F
  refine wpAny_Call_NameR (wpAny_mono (hf s E F) (fun f s₁ h₁ => ?_) fun _ _ e => e)
  have hfe := h₁.2
  simp only [Rep] at hfe
  subst hfe
  have ha' := ha s₁ E (F.keeps h₁.1)
  rw [he] at ha' ⊢
  refine PyProof.Rows.callWith_type (show (false || (backTo pos (starEach es c.env)).any (·.1)) = false by rw [hp]; rfl) (Calls.evalArgs_plain (wpAny_mono ha' (fun vs s₂ h₂ => ?_) fun _ _ e => e))
  exact wpAny_mono (hc s₂ E vs (F.keeps (h₁.1.trans h₂.1)) h₂.2) (fun v s₃ h₃ => Post.trans (h₁.1.trans h₂.1) h₃) fun _ _ e => e

theorem Ev.callF {x : Str} {p pos : Pos} {a : Addr} {o : Obj} {fd : FuncData} {e : Expr} {es : List Expr} {ds : List D} {d : D} (hf : Ev c μ ν (.Name x p) (.val (.ref a)))
    (ho : c.hL.get? a = some o) (hfd : o.data = .func fd) (hat : a ∉ tabs) (ha : EvL c μ ν pos (e :: es) ds)
    (hc : CallIs c μ ν (.ref a) ds d)
    (he : starEach (e :: es) c.env = (false, eval e c.env) :: starEach es c.env := by rfl) :
    Ev c μ ν (.Call (.Name x p) (e :: es) [] pos) d := by
  intro s E F
  refine wpAny_Call_NameR (wpAny_mono (hf s E F) (fun f s₁ h₁ => ?_) fun _ _ e => e)
  have hfe := h₁.2
  simp only [Rep] at hfe
  subst hfe
  have ha' := ha s₁ E (F.keeps h₁.1)
  rw [he] at ha' ⊢
  refine Calls.callWith_function (o := o) (fd := fd) (Calls.evalArgs_plain (wpAny_mono ha' (fun vs s₂ h₂ => ?_) fun _ _ e => e))
  have F2 := F.keeps (h₁.1.trans h₂.1)
  refine ⟨⟨F2.lib.get a o hat ho, hfd⟩, ?_⟩
  exact wpAny_mono (hc s₂ E vs F2 h₂.2) (fun v s₃ h₃ => Post.trans (h₁.1.trans h₂.1) h₃) fun _ _ e => e

end Mine
end
section
open PySem PyProof.Rows
set_option autoImplicit false
namespace Mine
variable {c : Cx} {μ : Vars} {ν : Muts}

theorem ns_ne_seq {h : Heap} {L b : Addr} {m : Str → Option Value} {o : Obj} (hn : h.Ns L m) (hb : h.get? b = some o) (hs : Obj.isSeq o = true) : b ≠ L := by
  rintro rfl
  obtain ⟨o', es, ep, ho, hd, _⟩ := hn
  rw [hb] at ho; cases ho
  simp [Obj.isSeq, hd] at hs
theorem ns_ne_cell {h : Heap} {L b : Addr} {m : Str → Option Value} {v : Option Value} (hn : h.Ns L m) (hb : h.IsCell b v) : b ≠ L := by
  rintro rfl
  obtain ⟨o', es, ep, ho, hd, _⟩ := hn
  obtain ⟨o, hb, hc⟩ := hb
  rw [hb] at ho; cases ho
  rw [hd] at hc; cases hc
theorem cell_ne_seq {h : Heap} {a b : Addr} {v : Option Value} {o : Obj} (hc : h.IsCell a v) (hb : h.get? b = some o) (hs : Obj.isSeq o = true) : b ≠ a := by
  rintro rfl
  obtain ⟨o', ho, hd⟩ := hc
  rw [hb] at ho; cases ho
  simp [Obj.isSeq, hd] at hs
theorem plain_seq {h : Heap} {a : Addr} {vs : Array Value} (p : h.PlainList a vs) : ∃ o, h.get? a = some o ∧ Obj.isSeq o = true := by
  obtain ⟨n, e⟩ := p; exact ⟨_, e, rfl⟩

/-- sequences and records stay -/
def Obj.isCell (o : Obj) : Bool := match o.data with | .cell .. => true | _ => false
structure Stay (L : Addr) (s s' : Shared) : Prop where
  data : ∀ b o, s.heap.get? b = some o → (Obj.isSeq o = true ∨ Obj.isFields o = true) → s'.heap.get? b = some o
  other : ∀ b o, s.heap.get? b = some o → b ≠ L → Obj.isCell o = false → s'.heap.get? b = some o
  same : ∃ h tk, s' = { s with heap := h, toks := tk }
theorem Stay.trans {L : Addr} {a b c : Shared} (x : Stay L a b) (y : Stay L b c) : Stay L a c :=
  ⟨fun i o e q => y.data i o (x.data i o e q) q, fun i o e q r => y.other i o (x.other i o e q r) q r, by
    obtain ⟨h, t, rfl⟩ := x.same; obtain ⟨h', t', rfl⟩ := y.same; exact ⟨h', t', rfl⟩⟩
theorem Kp.stay {L : Addr} {a b : Shared} (k : Kp a b) : Stay L a b := ⟨fun i o e _ => k.get i o e, fun i o e _ _ => k.get i o e, k.elim fun h ⟨t, e, _⟩ => ⟨h, t, e⟩⟩
theorem cell_ne_other {h : Heap} {a b : Addr} {v : Option Value} {o : Obj} (hc : h.IsCell a v) (hb : h.get? b = some o) (hs : Obj.isCell o = false) : b ≠ a := by
  rintro rfl
  obtain ⟨o', ho, hd⟩ := hc
  rw [hb] at ho; cases ho
  simp [Obj.isCell, hd] at hs
theorem ns_ne_fields {h : Heap} {L b : Addr} {m : Str → Option Value} {o : Obj} (hn : h.Ns L m) (hb : h.get? b = some o) (hs : Obj.isFields o = true) : b ≠ L := by
  rintro rfl
  obtain ⟨o', es, ep, ho, hd, _⟩ := hn
  rw [hb] at ho; cases ho
  simp [Obj.isFields, hd] at hs
theorem cell_ne_fields {h : Heap} {a b : Addr} {v : Option Value} {o : Obj} (hc : h.IsCell a v) (hb : h.get? b = some o) (hs : Obj.isFields o = true) : b ≠ a := by
  rintro rfl
  obtain ⟨o', ho, hd⟩ := hc
  rw [hb] at ho; cases ho
  simp [Obj.isFields, hd] at hs

theorem isSome_of_sameBut {h h' : Heap} {L a : Addr} (hs : Heap.SameBut L h h') (hL : (h'.get? L).isSome = true) (ha : (h.get? a).isSome = true) : (h'.get? a).isSome = true := by
  by_cases e : a = L
  · subst e; exact hL
  · rw [hs.2 a e]; exact ha

/-- a name stored -/
theorem FD.store_local {s : Shared} {E : Value → Shared → Prop} {x : Str} {d : D} {v : Value} {Q : Unit → Shared → Prop} (F : c.F μ ν s) (hk : c.env.kindOf x = some .local) (hr : Rep (mask c.H ν s.heap) d v)
    (h : ∀ s', c.F (upd μ x d) ν s' → Stay c.env.locals s s' → Q () s') : wpAny c.M c.A (storeName c.env x v) Q E s := by
  obtain ⟨m, cm, hn, hc, hv⟩ := F.vars
  refine wpAny_storeName_local hk hn (fun h' hn' hs' => h _ ?_ ⟨fun b o e q => hs'.extBut b o (q.elim (ns_ne_seq hn e) (ns_ne_fields hn e)) e, fun b o e q _ => hs'.extBut b o q e, ⟨h', _, rfl⟩⟩) (by rw [F.fn]; rfl)
  have le : SeqLe (mask c.H ν s.heap) (mask c.H ν h') := mask_le fun b o _ hsq e => hs'.extBut b o (ns_ne_seq hn e hsq) e
  exact {
    same := by obtain ⟨h₁, tk, rfl⟩ := F.same; exact ⟨h', _, rfl⟩
    keep := fun b o hb e => hs'.extBut b o (by rintro rfl; rw [F.freshL.2] at e; cases e) (F.keep b o hb e)
    live := fun b o e => isSome_of_sameBut hs' (by obtain ⟨o, _, _, e, _⟩ := hn'; rw [e]; rfl) (F.live b o e)
    froz := fun a o e => ⟨hs'.extBut a o ((F.froz a o e).2.elim (ns_ne_seq hn (F.froz a o e).1) (ns_ne_fields hn (F.froz a o e).1)) (F.froz a o e).1, (F.froz a o e).2⟩
    frozM := F.frozM
    dom := F.dom
    newM := F.newM
    lib := ⟨fun b o hb e => hs'.extBut b o (by rintro rfl; rw [F.freshL.1] at e; cases e) (F.lib.get b o hb e), fun t ht => isSome_of_sameBut hs' (by obtain ⟨o, _, _, e, _⟩ := hn'; rw [e]; rfl) (F.lib.tab t ht)⟩
    fn := F.fn
    hidL := F.hidL
    mutH := F.mutH
    hid := fun a ha => isSome_of_sameBut hs' (by obtain ⟨o, _, _, e, _⟩ := hn'; rw [e]; rfl) (F.hid a ha)
    freshL := F.freshL
    freshC := F.freshC
    apart := F.apart
    vars := ⟨_, cm, hn', fun n a e => (hc n a e).sameBut hs' (ns_ne_cell hn (hc n a e)), fun y d' e => by
      by_cases hy : y = x
      · subst hy
        simp only [upd, if_true] at e; cases e
        exact ⟨v, Rep.mono le _ _ hr, Or.inl ⟨hk, by simp⟩⟩
      · simp only [upd, hy, if_false] at e
        obtain ⟨v', hr', hw⟩ := hv y d' e
        refine ⟨v', Rep.mono le _ _ hr', ?_⟩
        rcases hw with ⟨a, b⟩ | b
        · exact Or.inl ⟨a, by simp [hy, b]⟩
        · exact Or.inr b⟩
    muts := fun a l e => by
      obtain ⟨h1, vs, hp, hr'⟩ := F.muts a l e
      obtain ⟨o, ho, hso⟩ := plain_seq hp
      exact ⟨h1, vs, hp.extBut hs'.extBut (ns_ne_seq hn ho hso), Reps.mono le _ _ hr'⟩ }

theorem FD.store_cell {s : Shared} {E : Value → Shared → Prop} {x : Str} {d : D} {v : Value} {Q : Unit → Shared → Prop} (F : c.F μ ν s) (hk : c.env.kindOf x = some .cell) (hl : (c.env.cells.lookup x).isSome = true) (hst : c.st x = true)
    (hr : Rep (mask c.H ν s.heap) d v) (h : ∀ s', c.F (upd μ x d) ν s' → Stay c.env.locals s s' → Q () s') : wpAny c.M c.A (storeName c.env x v) Q E s := by
  obtain ⟨m, cm, hn, hc, hv⟩ := F.vars
  obtain ⟨a, ha⟩ := Option.isSome_iff_exists.mp hl
  have hca := hc x a ha
  refine wpAny_storeName_cell F.fn hk ha hca fun h' hc' hs' => h _ ?_ ⟨fun b o e q => hs'.extBut b o (q.elim (cell_ne_seq hca e) (cell_ne_fields hca e)) e, fun b o e _ q => hs'.extBut b o (cell_ne_other hca e q) e, ⟨h', _, rfl⟩⟩
  have le : SeqLe (mask c.H ν s.heap) (mask c.H ν h') := mask_le fun b o _ hsq e => hs'.extBut b o (cell_ne_seq hca e hsq) e
  exact {
    same := by obtain ⟨h₁, tk, rfl⟩ := F.same; exact ⟨h', _, rfl⟩
    keep := fun b o hb e => hs'.extBut b o (by rintro rfl; rw [(F.freshC x b hst ha).2] at e; cases e) (F.keep b o hb e)
    live := fun b o e => isSome_of_sameBut hs' (by obtain ⟨o, e, _⟩ := hc'; rw [e]; rfl) (F.live b o e)
    froz := fun b o e => ⟨hs'.extBut b o ((F.froz b o e).2.elim (cell_ne_seq hca (F.froz b o e).1) (cell_ne_fields hca (F.froz b o e).1)) (F.froz b o e).1, (F.froz b o e).2⟩
    frozM := F.frozM
    dom := F.dom
    newM := F.newM
    lib := ⟨fun b o hb e => hs'.extBut b o (by rintro rfl; rw [(F.freshC x b hst ha).1] at e; cases e) (F.lib.get b o hb e), fun t ht => isSome_of_sameBut hs' (by obtain ⟨o, e, _⟩ := hc'; rw [e]; rfl) (F.lib.tab t ht)⟩
    fn := F.fn
    hidL := F.hidL
    mutH := F.mutH
    hid := fun b hb => isSome_of_sameBut hs' (by obtain ⟨o, e, _⟩ := hc'; rw [e]; rfl) (F.hid b hb)
    freshL := F.freshL
    freshC := F.freshC
    apart := F.apart
    vars := ⟨m, fun y => if y = x then some v else cm y, hn.sameBut hs' (Ne.symm (ns_ne_cell hn hca)), fun n b e => by
        by_cases hy : n = x
        · subst hy
          rw [ha] at e; cases e
          simpa using hc'
        · dsimp only; rw [if_neg hy]
          exact (hc n b e).sameBut hs' fun q => hy (F.apart n x a (q ▸ e) ha), fun y d' e => by
      by_cases hy : y = x
      · subst hy
        simp only [upd, if_true] at e; cases e
        exact ⟨v, Rep.mono le _ _ hr, Or.inr ⟨Or.inl hk, hl, by simp⟩⟩
      · simp only [upd, hy, if_false] at e
        obtain ⟨v', hr', hw⟩ := hv y d' e
        refine ⟨v', Rep.mono le _ _ hr', ?_⟩
        rcases hw with b | ⟨b1, b2, b3⟩
        · exact Or.inl b
        · exact Or.inr ⟨b1, b2, by simp [hy, b3]⟩⟩
    muts := fun b l e => by
      obtain ⟨h1, vs, hp, hr'⟩ := F.muts b l e
      obtain ⟨o, ho, hso⟩ := plain_seq hp
      exact ⟨h1, vs, hp.extBut hs'.extBut (cell_ne_seq hca ho hso), Reps.mono le _ _ hr'⟩ }

/-- x may be stored here -/
def Own (c : Cx) (x : Str) : Prop := c.env.kindOf x = some .local ∨ (c.env.kindOf x = some .cell ∧ (c.env.cells.lookup x).isSome = true ∧ c.st x = true)

theorem FD.store {s : Shared} {E : Value → Shared → Prop} {x : Str} {d : D} {v : Value} {Q : Unit → Shared → Prop} (F : c.F μ ν s) (hk : Own c x)
    (hr : Rep (mask c.H ν s.heap) d v) (h : ∀ s', c.F (upd μ x d) ν s' → Stay c.env.locals s s' → Q () s') : wpAny c.M c.A (storeName c.env x v) Q E s := by
  rcases hk with hk | ⟨hk, hl, hst⟩
  · exact FD.store_local F hk hr h
  · exact FD.store_cell F hk hl hst hr h

/-- statements -/
def Ex (c : Cx) (μ : Vars) (ν : Muts) (b : List Stmt) (P : Flow → Shared → Prop) (E : Value → Shared → Prop) : Prop :=
  ∀ s, c.F μ ν s → wpAny c.M c.A (execs b c.env) P E s

/-- what is to hold behind a block, the rest behind it -/
def thenP (c : Cx) (rest : List Stmt) (P : Flow → Shared → Prop) (E : Value → Shared → Prop) : Flow → Shared → Prop :=
  fun f s' => match f with | .next => wpAny c.M c.A (execs rest c.env) P E s' | f => P f s'

variable {P : Flow → Shared → Prop} {E : Value → Shared → Prop} {rest : List Stmt}

theorem Ex.nil (h : ∀ s, c.F μ ν s → P .next s) : Ex c μ ν [] P E := fun s F => wpAny_execs_nil (h s F)

theorem Ex.cons {st : Stmt} (h : ∀ s, c.F μ ν s → wpAny c.M c.A (exec st c.env) (thenP c rest P E) E s) : Ex c μ ν (st :: rest) P E := fun s F => by
  refine wpAny_execs_cons (wpAny_mono (h s F) (fun f s' h' => ?_) fun _ _ e => e)
  cases f <;> exact h'

theorem Ex.assign {x : Str} {p pos : Pos} {e : Expr} {d : D} (he : Ev c μ ν e d) (hk : Own c x) (hr : Ex c (upd μ x d) ν rest P E)
    (hs : swapsWith e (some (.Name x p)) pos.line c.env = pure false := by rfl) : Ex c μ ν (.Assign [.Name x p] e pos :: rest) P E := by
  refine Ex.cons fun s F => wpAny_Assign_Name (wpAny_mono (he s E F) (fun v s₁ h₁ => ?_) fun _ _ e => e) hs
  exact FD.store (F.keeps h₁.1) hk h₁.2 fun s' F' _ => hr s' F'

theorem Ex.ret {e : Expr} {pos : Pos} {d : D} (he : Ev c μ ν e d) (h : ∀ v s, c.F μ ν s → Rep (mask c.H ν s.heap) d v → P (.ret v) s) : Ex c μ ν (.Return (some e) pos :: rest) P E := by
  refine Ex.cons fun s F => wpAny_Return_some (wpAny_mono (he s E F) (fun v s₁ h₁ => ?_) fun _ _ e => e)
  exact h v s₁ (F.keeps h₁.1) h₁.2

theorem Ex.ite {test : Expr} {body orelse : List Stmt} {pos : Pos} {b : Bool} (ht : EvB c μ ν test b) (h1 : b = true → Ex c μ ν body (thenP c rest P E) E) (h2 : b = false → Ex c μ ν orelse (thenP c rest P E) E) :
    Ex c μ ν (.If test body orelse pos :: rest) P E := by
  refine Ex.cons fun s F => wpAny_If (wpAny_mono (ht s E F) (fun t s₁ h₁ => ?_) fun _ _ e => e)
  obtain ⟨k, rfl⟩ := h₁
  cases t with
  | true => exact h1 rfl s₁ (F.keeps k)
  | false => exact h2 rfl s₁ (F.keeps k)

theorem Ex.brk {pos : Pos} (h : ∀ s, c.F μ ν s → P .brk s) : Ex c μ ν (.Break pos :: rest) P E :=
  Ex.cons fun s F => wpAny_Break (h s F)

/-- a block whose end goes on with the rest -/
theorem Ex.then (h : Ex c μ ν rest P E) : ∀ s, c.F μ ν s → thenP c rest P E .next s := h

/-- the names of the parameters -/
def ofParams : List Str → List D → Vars
  | n :: ns, d :: ds => fun x => if x = n then some d else ofParams ns ds x
  | _, _ => fun _ => none

theorem bindL_other {k : Str → Option NameKind} : ∀ (b : List (Str × Value)) (m : Str → Option Value) (x : Str), (∀ p ∈ b, p.1 ≠ x) → bindL k b m x = m x
  | [], _, _, _ => rfl
  | (n, v) :: r, m, x, h => by
    unfold bindL
    rw [bindL_other r _ x fun p hp => h p (List.mem_cons_of_mem _ hp)]
    have : x ≠ n := fun e => h (n, v) List.mem_cons_self e.symm
    split <;> simp [this]
theorem bindC_other {k : Str → Option NameKind} : ∀ (b : List (Str × Value)) (m : Str → Option Value) (x : Str), (∀ p ∈ b, p.1 ≠ x) → bindC k b m x = m x
  | [], _, _, _ => rfl
  | (n, v) :: r, m, x, h => by
    unfold bindC
    rw [bindC_other r _ x fun p hp => h p (List.mem_cons_of_mem _ hp)]
    have : x ≠ n := fun e => h (n, v) List.mem_cons_self e.symm
    split <;> simp [this]

theorem zip_fst_mem {ns : List Str} {vs : List Value} {p : Str × Value} (h : p ∈ ns.zip vs) : p.1 ∈ ns := (List.of_mem_zip h).1

theorem bind_params {g : View} {k : Str → Option NameKind} : ∀ (ns : List Str) (ds : List D) (vs : List Value) (m cm : Str → Option Value), ns.Nodup → Reps g ds vs → (∀ n ∈ ns, k n = some .local ∨ k n = some .cell) →
    ∀ x d, ofParams ns ds x = some d → ∃ v, Rep g d v ∧ ((k x = some .local ∧ bindL k (ns.zip vs) m x = some v) ∨ (k x = some .cell ∧ bindC k (ns.zip vs) cm x = some v))
  | [], _, _, _, _, _, _, _, x, d, h => by simp [ofParams] at h
  | n :: ns, [], _, _, _, _, _, _, x, d, h => by simp [ofParams] at h
  | n :: ns, e :: ds, _, m, cm, hnd, hr, hk, x, d, h => by
    simp only [Reps] at hr
    obtain ⟨v, r, rfl, hd, hr⟩ := hr
    have hno : n ∉ ns := (List.nodup_cons.mp hnd).1
    simp only [List.zip_cons_cons, bindL, bindC]
    unfold ofParams at h
    by_cases hx : x = n
    · subst hx
      simp only [if_true] at h; cases h
      refine ⟨v, hd, ?_⟩
      have hz : ∀ p ∈ ns.zip r, p.1 ≠ x := fun p hp q => hno (q ▸ zip_fst_mem hp)
      rw [bindL_other _ _ _ hz, bindC_other _ _ _ hz]
      rcases hk x List.mem_cons_self with hl | hl
      · exact Or.inl ⟨hl, by simp [hl]⟩
      · exact Or.inr ⟨hl, by simp [hl]⟩
    · simp only [hx, if_false] at h
      exact bind_params ns ds r _ _ (List.nodup_cons.mp hnd).2 hr (fun y hy => hk y (List.mem_cons_of_mem _ hy)) x d h

def noMuts : Muts := fun _ => none
def noView : View := fun _ => none

theorem lookup_apart {cs : List (Str × Addr)} (hp : cs.Pairwise fun x y => x.2 ≠ y.2) {n n' : Str} {a : Addr} (h : cs.lookup n = some a) (h' : cs.lookup n' = some a) : n = n' :=
  name_of_addr hp (mem_of_lookup h) (mem_of_lookup h')

/-- what is known of a def of the text -/
structure DefAt (hL : Heap) (a : Addr) (fd : FuncData) (body : List Stmt) (ns : List Str) : Prop where
  at_ : ∃ o, hL.get? a = some o ∧ o.data = .func fd
  notTab : a ∉ tabs
  body_ : fd.body = .stmts body
  lim : hL.NoLimit
  code : ∃ cd, fd.code = .ref cd ∧ cd ∉ tabs ∧ hL.CodeRec fd.code fd.qualname
  plain : fd.scope.isCoroutine = false ∧ fd.scope.isGenerator = false ∧ fd.scope.kind = .function
  nodup : ns.Nodup
  kinds : ∀ n ∈ ns, fd.scope.names.lookup n = some .local ∨ (fd.scope.names.lookup n = some .cell ∧ ∀ L : Nat, ((cellsFrom L fd.scope.names []).lookup n).isSome = true)
  glob : fd.closure = []

theorem Lib.coderec {hL h : Heap} {cd : Addr} {q : Str} (l : Lib hL h) (hc : cd ∉ tabs) (x : hL.CodeRec (.ref cd) q) : h.CodeRec (.ref cd) q := by
  obtain ⟨c', o, vs, t, e, ho, r⟩ := x
  cases e
  exact ⟨cd, o, vs, t, rfl, l.get _ _ hc ho, r⟩
theorem Lib.nolimit {hL h : Heap} (l : Lib hL h) (x : hL.NoLimit) : h.NoLimit := by
  obtain ⟨mc, hn, e⟩ := x
  exact ⟨mc, l.ns (by decide) hn, e⟩

/-- a call whose names are bound by looking at the heap -/
theorem codeAny_call_cellsB {prog : Program} {w : World} {A : Around} {s : Shared} {R : Result → Shared → Prop} {a : Addr} {o : Obj} {fd : FuncData} {body : List Stmt} {vals : List Value} {binds : List (Str × Value)}
    (hroom : A.depth < recursionLimit) (ho : s.heap.get? a = some o) (hdata : o.data = .func fd) (hlim : s.heap.NoLimit) (hcd : s.heap.CodeRec fd.code fd.qualname)
    (hbody : fd.body = .stmts body) (hbind : BindsTo s fd ⟨vals, []⟩ binds) (hclo : fd.closure = [])
    (hkind : ∀ x ∈ binds, fd.scope.names.lookup x.1 = some .local ∨ (fd.scope.names.lookup x.1 = some .cell ∧ ((cellsFrom (s.heap.objs.size + 1) fd.scope.names []).lookup x.1).isSome = true))
    (h : ∀ s₁, InCallC s (callEnvC fd s.heap.objs.size a).locals (bindL (callEnvC fd s.heap.objs.size a).kindOf binds fun _ => none) (callEnvC fd s.heap.objs.size a).cells
        (bindC (callEnvC fd s.heap.objs.size a).kindOf binds fun _ => none) s₁ →
      wpAny (model prog w) (A.deeper (callEnvC fd s.heap.objs.size a)) (execs body (callEnvC fd s.heap.objs.size a)) (fun f s' => R (.ok (.ret (match f with | .ret v => v | _ => .none))) s')
        (fun e s' => wpAny (model prog w) (A.deeper (callEnvC fd s.heap.objs.size a)) (leaving (callEnvC fd s.heap.objs.size a) e) (fun _ s'' => R (.error e) s'') (fun e' s'' => R (.error e') s'') s') s₁)
    (hco : fd.scope.isCoroutine = false) (hgen : fd.scope.isGenerator = false) (hk : fd.scope.kind = .function) :
    codeAny (model prog w) A (.call (.ref a) ⟨vals, []⟩) R s := by
  refine codeAny_call_function hroom ho hdata hco hgen hbody hcd (hbind _ _ _ _ ?_)
  rw [hclo]
  refine wpAny_newFunctionEnv_cells hk hkind fun env he s' x => ?_
  subst he
  exact ⟨hlim.keeps x.toInCall.keep, codeAny_func (h s' x)⟩

/-- a def is called -/
theorem call_defB {prog : Program} {w : World} {A : Around} {hL : Heap} {s : Shared} {X H : Addr → Prop} {ν : Muts} {R : Result → Shared → Prop} {a : Addr} {fd : FuncData} {body : List Stmt} {ns : List Str} {ds : List D} {vs : List Value}
    (K : DefAt hL a fd body ns) (hbind : BindsTo s fd ⟨vs, []⟩ (ns.zip vs)) (hroom : A.depth < recursionLimit) (hlib : Lib hL s.heap)
    (hid : ∀ b, H b → (s.heap.get? b).isSome = true) (hidL : ∀ b, H b → hL.get? b = none) (hmH : ∀ b, (ν b).isSome = true → ¬ H b)
    (hmut : ∀ b l, ν b = some l → hL.get? b = none ∧ ∃ us, s.heap.PlainList b us ∧ Reps (mask H ν s.heap) l us.toList) (hr : Reps (mask H ν s.heap) ds vs)
    (h : Ex ⟨prog, w, A.deeper (callEnvC fd s.heap.objs.size a), hL, s, X, H, noView, callEnvC fd s.heap.objs.size a, fun _ => true, fun b => (ν b).isSome = true⟩ (ofParams ns ds) ν body
      (fun f s' => R (.ok (.ret (match f with | .ret v => v | _ => .none))) s')
      (fun e s' => wpAny (model prog w) (A.deeper (callEnvC fd s.heap.objs.size a)) (leaving (callEnvC fd s.heap.objs.size a) e) (fun _ s'' => R (.error e) s'') (fun e' s'' => R (.error e') s'') s')) :
    codeAny (model prog w) A (.call (.ref a) ⟨vs, []⟩) R s := by
  obtain ⟨o, ho, hfd⟩ := K.at_
  obtain ⟨cd, hcd, hct, hrec⟩ := K.code
  refine codeAny_call_cellsB hroom (hlib.get _ _ K.notTab ho) hfd (hlib.nolimit K.lim) (hcd ▸ hlib.coderec hct (hcd ▸ hrec)) K.body_ hbind K.glob
    (fun x hx => (K.kinds x.1 (zip_fst_mem hx)).imp id fun q => ⟨q.1, q.2 _⟩) (fun s₁ I => ?_) K.plain.1 K.plain.2.1 K.plain.2.2
  have kp : Kp s s₁ := I.toInCall.done
  refine h s₁ ?_
  exact {
    same := I.toInCall.same
    keep := fun b o' _ e => I.toInCall.keep b o' e
    live := fun b o' e => by rw [I.toInCall.keep b o' e]; rfl
    froz := fun b o' e => by cases e
    frozM := fun _ _ _ => rfl
    dom := fun _ h => h
    newM := fun _ h => Or.inl h
    lib := hlib.mono I.toInCall.keep
    fn := K.plain.2.2
    hidL := hidL
    mutH := hmH
    hid := fun b hb => by
      obtain ⟨o', e⟩ := Option.isSome_iff_exists.mp (hid b hb)
      rw [I.toInCall.keep b o' e]; rfl
    freshL := ⟨hlib.fresh (fresh_size (Nat.le_refl _)), fresh_size (Nat.le_refl _)⟩
    freshC := fun n b _ hl => by
      have := I.above n b (mem_of_lookup hl)
      have h2 : s.heap.objs.size ≤ b := Nat.le_of_lt this
      exact ⟨hlib.fresh (fresh_size h2), fresh_size h2⟩
    apart := fun n n' b h1 h2 => lookup_apart I.apart h1 h2
    vars := ⟨_, _, I.toInCall.ns, I.cell, fun x d e => by
      obtain ⟨v, hv, hw⟩ := bind_params (g := mask H ν s.heap) (k := (callEnvC fd s.heap.objs.size a).kindOf) ns ds vs (fun _ => none) (fun _ => none) K.nodup hr (fun n hn => (K.kinds n hn).imp id fun q => q.1) x d e
      refine ⟨v, Rep.keeps hv kp, ?_⟩
      rcases hw with hw | ⟨hw, hw'⟩
      · exact Or.inl hw
      · refine Or.inr ⟨Or.inl hw, ?_, hw'⟩
        have hx : x ∈ ns := by
          revert e
          clear hv hw hw'
          have : ∀ (ns : List Str) (ds : List D), ofParams ns ds x = some d → x ∈ ns := by
            intro ns
            induction ns with
            | nil => intro ds h; simp [ofParams] at h
            | cons n ns ih =>
              intro ds h
              cases ds with
              | nil => simp [ofParams] at h
              | cons d' ds =>
                unfold ofParams at h
                by_cases q : x = n
                · subst q; exact List.mem_cons_self
                · simp only [q, if_false] at h; exact List.mem_cons_of_mem _ (ih ds h)
          exact this ns ds
        rcases K.kinds x hx with q | q
        · have hw2 : fd.scope.names.lookup x = some .cell := hw
          rw [q] at hw2; cases hw2
        · exact q.2 _⟩
    muts := fun b l e => by
      obtain ⟨h1, us, hp, hu⟩ := hmut b l e
      exact ⟨h1, us, hp.at fun o' e' => I.toInCall.keep b o' e', Reps.keeps hu kp⟩ }

theorem call_def {prog : Program} {w : World} {A : Around} {hL : Heap} {s : Shared} {X H : Addr → Prop} {ν : Muts} {R : Result → Shared → Prop} {a : Addr} {fd : FuncData} {body : List Stmt} {ns : List Str} {ds : List D} {vs : List Value}
    (K : DefAt hL a fd body ns) (hbind : bindArgs fd ⟨vs, []⟩ = pure (ns.zip vs)) (hroom : A.depth < recursionLimit) (hlib : Lib hL s.heap)
    (hid : ∀ b, H b → (s.heap.get? b).isSome = true) (hidL : ∀ b, H b → hL.get? b = none) (hmH : ∀ b, (ν b).isSome = true → ¬ H b)
    (hmut : ∀ b l, ν b = some l → hL.get? b = none ∧ ∃ us, s.heap.PlainList b us ∧ Reps (mask H ν s.heap) l us.toList) (hr : Reps (mask H ν s.heap) ds vs)
    (h : Ex ⟨prog, w, A.deeper (callEnvC fd s.heap.objs.size a), hL, s, X, H, noView, callEnvC fd s.heap.objs.size a, fun _ => true, fun b => (ν b).isSome = true⟩ (ofParams ns ds) ν body
      (fun f s' => R (.ok (.ret (match f with | .ret v => v | _ => .none))) s')
      (fun e s' => wpAny (model prog w) (A.deeper (callEnvC fd s.heap.objs.size a)) (leaving (callEnvC fd s.heap.objs.size a) e) (fun _ s'' => R (.error e) s'') (fun e' s'' => R (.error e') s'') s')) :
    codeAny (model prog w) A (.call (.ref a) ⟨vs, []⟩) R s :=
  call_defB K (BindsTo.of_eq hbind) hroom hlib hid hidL hmH hmut hr h
end Mine
end
section
open PySem PySem.W PyProof.Rows
set_option autoImplicit false
set_option maxRecDepth 100000
namespace Mine

/-- room for n more calls, and no exception being handled -/
structure Room (A : Around) (n : Nat) : Prop where
  depth : A.depth + n < recursionLimit
  units : A.units + 4 * n + 8 < cLine
  handled : A.handled = none

theorem Room.deeper {A : Around} {n : Nat} {env : Env} (r : Room A (n + 1)) : Room (A.deeper env) n :=
  ⟨by have := r.depth; show A.depth + 1 + n < _; omega, by have := r.units; rw [Around.deeper_units]; omega, r.handled⟩
theorem Room.le {A : Around} {n m : Nat} (r : Room A n) (h : m ≤ n) : Room A m := ⟨by have := r.depth; omega, by have := r.units; omega, r.handled⟩

/-- a def of the text, called upon data, comes back with data, all kept -/
def Pure (prog : Program) (w : World) (hL : Heap) (f : Addr) (need : Nat) (ds : List D) (d : D) : Prop :=
  ∀ A s vs H, Room A need → Lib hL s.heap → (∀ b, H b → (s.heap.get? b).isSome = true) → (∀ b, H b → hL.get? b = none) → Reps (mask H noMuts s.heap) ds vs →
    codeAny (model prog w) A (.call (.ref f) ⟨vs, []⟩) (fun r s' => ∃ v, r = .ok (.ret v) ∧ Kp s s' ∧ Rep (mask H noMuts s'.heap) d v) s

theorem mask_hide (H : Addr → Prop) (ν : Muts) (h : Heap) : mask (fun b => H b ∨ (ν b).isSome = true) noMuts h = mask H ν h := by
  funext a
  unfold mask noMuts
  by_cases hb : H a ∨ (ν a).isSome = true
  · rw [if_pos (Or.inl hb), if_pos hb]
  · rw [if_neg (fun q => q.elim hb (fun e => by cases e)), if_neg hb]

theorem FD.hides {c : Cx} {μ : Vars} {ν : Muts} {s : Shared} (F : c.F μ ν s) : ∀ b, (c.H b ∨ (ν b).isSome = true) → (s.heap.get? b).isSome = true := by
  intro b hb
  rcases hb with hb | hb
  · exact F.hid b hb
  · obtain ⟨l, e⟩ := Option.isSome_iff_exists.mp hb
    obtain ⟨_, vs, ⟨n, hp⟩, _⟩ := F.muts b l e
    rw [hp]; rfl

theorem FD.hidesL {c : Cx} {μ : Vars} {ν : Muts} {s : Shared} (F : c.F μ ν s) : ∀ b, (c.H b ∨ (ν b).isSome = true) → c.hL.get? b = none := by
  intro b hb
  rcases hb with hb | hb
  · exact F.hidL b hb
  · obtain ⟨l, e⟩ := Option.isSome_iff_exists.mp hb
    exact (F.muts b l e).1

theorem CallIs.ofPure {c : Cx} {μ : Vars} {ν : Muts} {f : Addr} {need : Nat} {ds : List D} {d : D} (r : Room c.A need) (h : Pure c.prog c.w c.hL f need ds d) : CallIs c μ ν (.ref f) ds d := by
  intro s E vs F hr
  refine wpAny_call (codeAny_mono (h c.A s vs (fun b => c.H b ∨ (ν b).isSome = true) r F.lib F.hides F.hidesL (by rw [mask_hide]; exact hr)) fun r s' hq => ?_)
  obtain ⟨v, rfl, k, hv⟩ := hq
  rw [mask_hide] at hv
  exact ⟨k, hv⟩

/-- the module of the built-ins -/
def BMain (h : Heap) : Prop := ∃ mg bm ob, h.Ns mainGlobals mg ∧ mg "__builtins__" = some (.ref bm) ∧ bm ≠ builtinsNs ∧ bm ∉ tabs ∧ h.get? bm = some ob ∧ ob.cls = .type "module" ∧ ob.dict = some builtinsNs ∧ ob.data = .plain
def heads : List (Addr × Addr) := [(126, 122), (102, 98), (145, 143)]

structure HL (P : Params) (hL : Heap) : Prop where
  base : ∃ h0 : Heap, (Mine.hd.heap_39 P).In h0 ∧ (∃ mb, h0.Ns builtinsNs mb ∧ ∀ x : Str, x ≠ "__name__" → mb x = bootBuiltins x) ∧ (h0.NoLimit ∧ BMain h0 ∧ ∀ q ∈ heads, CodeHd h0 q.1 q.2) ∧ ∀ b o, b ∉ tabs → h0.get? b = some o → hL.get? b = some o

theorem coderec_off {h0 hL : Heap} {cd : Addr} {q : Str} (l : ∀ b o, b ∉ tabs → h0.get? b = some o → hL.get? b = some o) (hc : cd ∉ tabs) (x : h0.CodeRec (.ref cd) q) : hL.CodeRec (.ref cd) q := by
  obtain ⟨c', o, vs, t, e, ho, r⟩ := x
  cases e
  exact ⟨cd, o, vs, t, rfl, l _ _ hc ho, r⟩
theorem HL.K {P : Params} {hL : Heap} (h : HL P hL) : ∀ a o, a ∉ tabs → (Mine.hd.heap_39 P).lookup a = some o → hL.get? a = some o := by
  obtain ⟨h0, k, _, _, l⟩ := h.base
  exact fun a o ha e => l a o ha (k a o e)
theorem HL.code {P : Params} {hL : Heap} (h : HL P hL) {cd : Addr} {q : Str} (hc : cd ∉ tabs) (e : codeIn (Mine.hd.heap_39 P) (.ref cd) q = true) : hL.CodeRec (.ref cd) q := by
  obtain ⟨h0, k, _, _, l⟩ := h.base
  exact coderec_off l hc (codeRec_of k e)
theorem HL.lim {P : Params} {hL : Heap} (h : HL P hL) : hL.NoLimit := by
  obtain ⟨h0, _, _, ⟨⟨mc, hn, e⟩, _⟩, l⟩ := h.base
  exact ⟨mc, hn.at' fun o q => l _ o (by decide) q, e⟩
theorem HL.bm {P : Params} {hL : Heap} (h : HL P hL) : ∃ mg, hL.Ns mainGlobals mg ∧ ∀ h' : Heap, (∀ b o, b ∉ tabs → hL.get? b = some o → h'.get? b = some o) → ∀ t ∈ tabs, h'.Ns mainGlobals mg ∧ h'.BuiltinsAt mg t := by
  obtain ⟨h0, _, _, ⟨_, ⟨mg, bm, ob, b1, b2, b3, b4, b5, b6⟩, _⟩, l⟩ := h.base
  refine ⟨mg, b1.at' fun o q => l _ o (by decide) q, fun h' k t ht => ⟨b1.at' fun o q => k _ _ (by decide) (l _ o (by decide) q), bm, ob, b2, b3, fun q => ?_, fun q => b4 (q ▸ ht), k _ _ b4 (l _ _ b4 b5), b6⟩⟩
  obtain ⟨o, es, ep, e, hd, _⟩ := b1
  rw [q, e] at b5; cases b5
  rw [hd] at b6; cases b6.2.2
theorem HL.head {P : Params} {hL : Heap} (h : HL P hL) {q : Addr × Addr} (hq : q ∈ heads) : ∀ h' : Heap, (∀ b o, b ∉ tabs → hL.get? b = some o → h'.get? b = some o) → CodeHd h' q.1 q.2 := by
  obtain ⟨h0, _, _, ⟨_, _, hh⟩, l⟩ := h.base
  obtain ⟨o, vs, file, tf, flags, tg, inF, text, tt, e, r⟩ := hh q hq
  intro h' k
  have ht : q.1 ∉ tabs := by
    have : ∀ q ∈ heads, q.1 ∉ tabs := by decide
    exact this q hq
  exact ⟨o, vs, file, tf, flags, tg, inF, text, tt, k _ _ ht (l _ _ ht e), r⟩

noncomputable def fdAt (P : Params) (a : Addr) : FuncData := match (Mine.hd.heap_39 P).lookup a with
  | some o => (match o.data with | .func f => f | _ => default)
  | none => default
noncomputable def bodyAt (P : Params) (a : Addr) : List Stmt := match (fdAt P a).body with
  | .stmts b => b
  | _ => []

theorem kinds_of_def {fd : FuncData} {ns : List Str} (e : (ns.all fun y => fd.scope.names.lookup y == some .local || fd.scope.names.lookup y == some .cell) = true) :
    ∀ n ∈ ns, fd.scope.names.lookup n = some .local ∨ (fd.scope.names.lookup n = some .cell ∧ ∀ L : Nat, ((cellsFrom L fd.scope.names []).lookup n).isSome = true) := fun n hn => by
  have := List.all_eq_true.mp e n hn
  rcases Bool.or_eq_true_iff.mp this with q | q
  · exact .inl (by simpa using q)
  · have q' : fd.scope.names.lookup n = some .cell := by simpa using q
    exact .inr ⟨q', fun L => cellsFrom_some _ _ _ (.inl q')⟩

theorem def_at {P : Params} {hL : Heap} (h : HL P hL) (a : Addr) (ns : List Str) (cd : Addr)
    (h1 : (match (Mine.hd.heap_39 P).lookup a with | some o => (match o.data with | .func _ => true | _ => false) | none => false) = true := by kernel_rfl) (h2 : a ∉ tabs := by decide)
    (h3 : (fdAt P a).body = .stmts (bodyAt P a) := by kernel_rfl) (h4 : (fdAt P a).code = .ref cd := by kernel_rfl) (h5 : cd ∉ tabs := by decide)
    (h6 : codeIn (Mine.hd.heap_39 P) (.ref cd) (fdAt P a).qualname = true := by kernel_rfl)
    (h7 : (fdAt P a).scope.isCoroutine = false := by kernel_rfl) (h8 : (fdAt P a).scope.isGenerator = false := by kernel_rfl) (h9 : (fdAt P a).scope.kind = .function := by kernel_rfl) (h10 : ns.Nodup := by decide)
    (h11 : (ns.all fun y => (fdAt P a).scope.names.lookup y == some .local || (fdAt P a).scope.names.lookup y == some .cell) = true := by kernel_rfl) (h12 : (fdAt P a).closure = [] := by kernel_rfl) :
    DefAt hL a (fdAt P a) (bodyAt P a) ns where
  at_ := by
    cases e : (Mine.hd.heap_39 P).lookup a with
    | none => rw [e] at h1; cases h1
    | some o =>
      refine ⟨o, h.K a o h2 e, ?_⟩
      rw [e] at h1
      unfold fdAt
      rw [e]
      dsimp only at h1 ⊢
      split at h1
      · rename_i q; rw [q]
      · cases h1
  notTab := h2
  body_ := h3
  lim := h.lim
  code := ⟨cd, h4, h5, by rw [h4]; exact h.code h5 h6⟩
  plain := ⟨h7, h8, h9⟩
  nodup := h10
  kinds := kinds_of_def h11
  glob := h12

theorem deed_at {P : Params} {hL : Heap} (h : HL P hL) : DefAt hL 110 (fdAt P 110) (bodyAt P 110) ["number"] := def_at h 110 _ 109
end Mine
end
section
open PySem PySem.W PyProof.Rows
set_option autoImplicit false
set_option maxRecDepth 100000
namespace Mine

theorem Reps.one {g : View} {d : D} {vs : List Value} (h : Reps g [d] vs) : ∃ v, vs = [v] ∧ Rep g d v := by
  simp only [Reps] at h
  obtain ⟨v, r, rfl, hv, rfl⟩ := h
  exact ⟨v, rfl, hv⟩

variable {P : Params} {prog : Program} {w : World} {hL : Heap}

/-- the body gives the promise -/
theorem pure_of {a : Addr} {fd : FuncData} {body : List Stmt} {ns : List Str} {ds : List D} {d : D} {need : Nat} (K : DefAt hL a fd body ns) (hlen : ns.length = ds.length)
    (hbind : ∀ vs : List Value, vs.length = ns.length → bindArgs fd ⟨vs, []⟩ = pure (ns.zip vs))
    (h : ∀ A s H, Room A need → Ex ⟨prog, w, A.deeper (callEnvC fd s.heap.objs.size a), hL, s, fun _ => False, H, noView, callEnvC fd s.heap.objs.size a, fun _ => true, fun b => (noMuts b).isSome = true⟩ (ofParams ns ds) noMuts body
      (fun f s' => ∃ v, f = .ret v ∧ Kp s s' ∧ Rep (mask H noMuts s'.heap) d v) (fun _ _ => False)) : Pure prog w hL a need ds d := by
  intro A s vs H r hlib hid hidL hr
  refine call_def (X := fun _ => False) (H := H) (ν := noMuts) K (hbind vs (by rw [hr.length, hlen])) (by have := r.depth; omega) hlib hid hidL (fun b e => by cases e) (fun b l e => by cases e) hr ?_
  intro s₁ F
  refine wpAny_mono (h A s H r s₁ F) (fun f s' hf => ?_) fun _ _ e => e.elim
  obtain ⟨v, rfl, k, hv⟩ := hf
  exact ⟨v, rfl, k, hv⟩

theorem FD.kp {c : Cx} {μ : Vars} {ν : Muts} {s : Shared} (F : c.F μ ν s) (hX : ∀ b, ¬ c.X b) : Kp c.s₀ s := by
  obtain ⟨h, tk, e⟩ := F.same
  exact ⟨h, tk, e, fun b o q => by have := F.keep b o (hX b) q; rw [e] at this; exact this⟩

theorem deed_pure (h : HL P hL) (x : Int) : Pure prog w hL 110 1 [.int x] (.list [.int (x % 12), .int ((x % 12 + 1 + x / 12 % 11) % 12), .int (x / 132 % 256)]) := by
  refine pure_of (deed_at h) rfl (fun vs hv => ?_) fun A s H r => ?_
  · obtain ⟨v, rfl⟩ := List.length_eq_one_iff.mp hv
    rfl
  · refine Ex.assign (Ev.bin (Ev.name rfl) Ev.int (op_mod (by decide))) (Or.inl (by kernel_rfl)) ?_
    refine Ex.ret (Ev.list (EvL.cons (Ev.name rfl) (EvL.cons (Ev.bin (Ev.bin (Ev.bin (Ev.name rfl) Ev.int op_add) (Ev.bin (Ev.bin (Ev.name rfl) Ev.int (op_div (by decide) (PyProof.noPylong_of_log2 (by decide +kernel)))) Ev.int (op_mod (by decide))) op_add) Ev.int (op_mod (by decide))) (EvL.cons (Ev.bin (Ev.bin (Ev.name rfl) Ev.int (op_div (by decide) (PyProof.noPylong_of_log2 (by decide +kernel)))) Ev.int (op_mod (by decide))) EvL.nil)))) ?_
    intro v s' F hv
    exact ⟨v, rfl, F.kp fun _ e => e, hv⟩
end Mine
end
section
open PySem PySem.W PyProof.Rows
set_option autoImplicit false
set_option maxRecDepth 100000
namespace Mine
variable {c : Cx} {μ : Vars} {ν : Muts}


def Obj.isDict (o : Obj) : Bool := match o.data with | .dict .. => true | _ => false
theorem fields_not_dict {o : Obj} (h : Obj.isFields o = true) (h' : Obj.isDict o = true) : False := by
  obtain ⟨c, d, dt, sl⟩ := o
  cases dt <;> simp [Obj.isFields, Obj.isDict] at h h'
theorem seq_not_dict {o : Obj} (h : Obj.isSeq o = true) (h' : Obj.isDict o = true) : False := by
  obtain ⟨c, d, dt, sl⟩ := o
  cases dt <;> simp [Obj.isSeq, Obj.isDict] at h h'
theorem seq_not_fields {o : Obj} (h : Obj.isSeq o = true) (h' : Obj.isFields o = true) : False := by
  obtain ⟨c, d, dt, sl⟩ := o
  cases dt <;> simp [Obj.isSeq, Obj.isFields] at h h'

/-- some things that are no part of the frame turn -/
theorem FD.step {s : Shared} (F : c.F μ ν s) {h' : Heap} {tk : Nat} {wr : List Addr} (hk : ∀ b o, b ∉ wr → s.heap.get? b = some o → h'.get? b = some o)
    (hw : ∀ b ∈ wr, c.s₀.heap.get? b = none ∧ c.hL.get? b = none ∧ ((h'.get? b).isSome = true ∨ (¬ c.H b ∧ b ∉ tabs)) ∧ ∃ o, s.heap.get? b = some o ∧ ((Obj.isFields o = true ∧ c.g b = none) ∨ (c.H b ∧ Obj.isSeq o = true ∧ ν b = none ∧ c.g b = none) ∨ (Obj.isDict o = true ∧ b ≠ c.env.locals))) :
    c.F μ ν { s with heap := h', toks := tk } := by
  have notFrame : ∀ b ∈ wr, ∀ {m : Str → Option Value}, s.heap.Ns c.env.locals m → c.env.locals ≠ b := by
    intro b hb m hn q
    obtain ⟨_, _, _, o, ho, hk⟩ := hw b hb
    obtain ⟨o', _, _, ho', hd, _⟩ := hn
    rw [q, ho] at ho'; cases ho'
    rcases hk with ⟨hk, _⟩ | ⟨_, hk, _⟩ | ⟨_, hk⟩
    · simp [Obj.isFields, hd] at hk
    · simp [Obj.isSeq, hd] at hk
    · exact hk q.symm
  have notCell : ∀ b ∈ wr, ∀ {a : Addr} {v : Option Value}, s.heap.IsCell a v → a ≠ b := by
    intro b hb a v hn q
    obtain ⟨_, _, _, o, ho, hk⟩ := hw b hb
    obtain ⟨o', ho', hd⟩ := hn
    rw [q, ho] at ho'; cases ho'
    rcases hk with ⟨hk, _⟩ | ⟨_, hk, _⟩ | ⟨hk, _⟩
    · simp [Obj.isFields, hd] at hk
    · simp [Obj.isSeq, hd] at hk
    · simp [Obj.isDict, hd] at hk
  have notSeq : ∀ b o, s.heap.get? b = some o → Obj.isSeq o = true → ¬ c.H b → b ∉ wr := by
    intro b o ho hs hH hb
    obtain ⟨_, _, _, o', ho', hk⟩ := hw b hb
    rw [ho] at ho'; cases ho'
    rcases hk with ⟨hk, _⟩ | ⟨q, _⟩ | ⟨q, _⟩
    · exact seq_not_fields hs hk
    · exact hH q
    · exact seq_not_dict hs q
  have some' : ∀ b, (s.heap.get? b).isSome = true → (c.H b ∨ b ∈ tabs ∨ b ∉ wr) → (h'.get? b).isSome = true := by
    intro b hb hor
    by_cases q : b ∈ wr
    · rcases (hw b q).2.2.1 with r | ⟨r1, r2⟩
      · exact r
      · rcases hor with r | r | r
        · exact absurd r r1
        · exact absurd r r2
        · exact absurd q r
    · obtain ⟨o, e⟩ := Option.isSome_iff_exists.mp hb
      rw [hk b o q e]; rfl
  have le : SeqLe (mask c.H ν s.heap) (mask c.H ν h') := by
    intro b o e hs
    rw [mask_some] at e ⊢
    exact ⟨e.1, e.2.1, hk b o (notSeq b o e.2.2 hs e.1) e.2.2⟩
  exact {
    same := by obtain ⟨h₁, t₁, rfl⟩ := F.same; exact ⟨h', tk, rfl⟩
    keep := fun b o hb e => hk b o (fun q => by rw [(hw b q).1] at e; cases e) (F.keep b o hb e)
    live := fun b o e => some' b (F.live b o e) (Or.inr (Or.inr fun q => by rw [(hw b q).1] at e; cases e))
    lib := ⟨fun b o hb e => hk b o (fun q => by rw [(hw b q).2.1] at e; cases e) (F.lib.get b o hb e), fun t ht => some' t (F.lib.tab t ht) (Or.inr (Or.inl ht))⟩
    fn := F.fn
    hidL := F.hidL
    mutH := F.mutH
    hid := fun a ha => some' a (F.hid a ha) (Or.inl ha)
    froz := fun a o e => ⟨hk a o (fun q => by
        obtain ⟨_, _, _, o', ho', hk'⟩ := hw a q
        have := (F.froz a o e).1
        rw [ho'] at this; cases this
        rcases hk' with ⟨_, hg⟩ | ⟨_, _, _, hg⟩ | ⟨hk', _⟩
        · rw [hg] at e; cases e
        · rw [hg] at e; cases e
        · rcases (F.froz a _ e).2 with q | q
          · exact seq_not_dict q hk'
          · exact fields_not_dict q hk') (F.froz a o e).1, (F.froz a o e).2⟩
    frozM := F.frozM
    dom := F.dom
    newM := F.newM
    freshL := F.freshL
    freshC := F.freshC
    apart := F.apart
    vars := by
      obtain ⟨m, cm, hn, hc, hv⟩ := F.vars
      refine ⟨m, cm, hn.at' fun o e => hk _ o (fun q => notFrame _ q hn rfl) e, fun n a e => ?_, fun x d e => ?_⟩
      · obtain ⟨o, ho, hd⟩ := hc n a e
        exact ⟨o, hk a o (fun q => notCell a q (hc n a e) rfl) ho, hd⟩
      · obtain ⟨v, hr, hw'⟩ := hv x d e
        exact ⟨v, Rep.mono le _ _ hr, hw'⟩
    muts := fun a l e => by
      obtain ⟨h1, vs, hp, hr⟩ := F.muts a l e
      refine ⟨h1, vs, hp.at fun o ho => hk a o (fun q => ?_) ho, Reps.mono le _ _ hr⟩
      obtain ⟨_, _, _, o', ho', hk'⟩ := hw a q
      obtain ⟨n, hp⟩ := hp
      rw [hp] at ho'; cases ho'
      rcases hk' with ⟨hk', _⟩ | ⟨_, _, hν, _⟩ | ⟨hk', _⟩
      · simp [Obj.isFields] at hk'
      · rw [e] at hν; cases hν
      · simp [Obj.isDict] at hk' }

/-- the closure of a comprehension -/
def closureOf (cells : List (Str × Addr)) : List (Str × NameKind) → List (Str × Addr) → List (Str × Addr)
  | [], acc => acc
  | (n, k) :: r, acc => if k == .free then closureOf cells r ((n, (cells.lookup n).getD 0) :: acc) else closureOf cells r acc

theorem closureFor_eq {scope : Scope} {env : Env} (hall : (scope.names.all fun x => x.2 != .free || (env.cells.lookup x.1).isSome) = true) : closureFor scope env = pure (closureOf env.cells scope.names []) := by
  unfold closureFor
  have key : ∀ (l : List (Str × NameKind)) (acc : List (Str × Addr)), (l.all fun x => x.2 != .free || (env.cells.lookup x.1).isSome) = true →
      (forIn l acc fun (x : Str × NameKind) r => (if x.2 == NameKind.free then do let a ← cellOf env x.1; pure (ForInStep.yield ((x.1, a) :: r)) else pure (ForInStep.yield r) : Sem (ForInStep (List (Str × Addr))))) = pure (closureOf env.cells l acc) := by
    intro l
    induction l with
    | nil => intro acc _; rfl
    | cons x l ih =>
      intro acc h
      obtain ⟨n, k⟩ := x
      simp only [List.all_cons, Bool.and_eq_true] at h
      rw [List.forIn_cons]
      cases hk : k == NameKind.free with
      | false =>
        simp only [Bool.false_eq_true, if_false, pure_bind, closureOf, hk]
        exact ih acc h.2
      | true =>
        have h1 := h.1
        have : (k != NameKind.free) = false := by simp [bne, hk]
        rw [this, Bool.false_or] at h1
        obtain ⟨a, ha⟩ := Option.isSome_iff_exists.mp h1
        simp only [if_true, closureOf, hk, ha, Option.getD_some, cellOf, pure_bind]
        exact ih _ h.2
  have := key scope.names [] hall
  simpa using this

theorem closureOf_lookup (cells : List (Str × Addr)) : ∀ (l : List (Str × NameKind)) (acc : List (Str × Addr)) (n : Str) (a : Addr), (closureOf cells l acc).lookup n = some a →
    acc.lookup n = some a ∨ ((n, NameKind.free) ∈ l ∧ (cells.lookup n).getD 0 = a)
  | [], acc, n, a, h => Or.inl h
  | (m, k) :: r, acc, n, a, h => by
    unfold closureOf at h
    split at h
    · rename_i hk
      rcases closureOf_lookup cells r _ n a h with q | q
      · rw [List.lookup_cons] at q
        by_cases hn : (n == m) = true
        · rw [hn] at q
          have e : n = m := by simpa using hn
          have hkk : k = .free := by simpa using hk
          subst e
          cases q
          exact Or.inr ⟨by rw [hkk]; exact List.mem_cons_self, rfl⟩
        · have hn' : (n == m) = false := by simpa using hn
          rw [hn'] at q; exact Or.inl q
      · exact Or.inr ⟨List.mem_cons_of_mem _ q.1, q.2⟩
    · rcases closureOf_lookup cells r _ n a h with q | q
      · exact Or.inl q
      · exact Or.inr ⟨List.mem_cons_of_mem _ q.1, q.2⟩

theorem closureOf_isSome (cells : List (Str × Addr)) : ∀ (l : List (Str × NameKind)) (acc : List (Str × Addr)) (n : Str), ((acc.lookup n).isSome = true ∨ (n, NameKind.free) ∈ l) → ((closureOf cells l acc).lookup n).isSome = true
  | [], acc, n, h => by
    rcases h with h | h
    · exact h
    · cases h
  | (m, k) :: r, acc, n, h => by
    unfold closureOf
    split
    · rename_i hk
      refine closureOf_isSome cells r _ n ?_
      rcases h with h | h
      · left
        rw [List.lookup_cons]
        split <;> first | rfl | exact h
      · rcases List.mem_cons.mp h with e | e
        · cases e
          left; rw [List.lookup_cons]; simp
        · exact Or.inr e
    · rename_i hk
      refine closureOf_isSome cells r _ n ?_
      rcases h with h | h
      · exact Or.inl h
      · rcases List.mem_cons.mp h with e | e
        · cases e; simp at hk
        · exact Or.inr e

theorem cellsFrom_app : ∀ (names : List (Str × NameKind)) (n : Nat) (acc : List (Str × Addr)), cellsFrom n names acc = cellsFrom n names [] ++ acc
  | [], n, acc => rfl
  | (x, k) :: r, n, acc => by
    unfold cellsFrom
    split
    · rw [cellsFrom_app r (n + 1) ((x, n) :: acc), cellsFrom_app r (n + 1) [(x, n)]]
      simp
    · exact cellsFrom_app r n acc

end Mine
end
section
open PySem PySem.W PyProof.Rows
set_option autoImplicit false
set_option maxRecDepth 100000
namespace Mine
variable {c : Cx} {μ : Vars} {ν : Muts}

def compFrame (scope : Scope) (env : Env) (C : Addr) : Env :=
  { scope := relabel scope env, locals := C, globals := env.globals, cells := cellsFrom (C + 1) scope.names (closureOf env.cells scope.names []), qual := env.qual, func := none, code := env.code, frame := env.frame, builtins := env.builtins }
/-- the context within a comprehension -/
def Cx.comp (c : Cx) (scope : Scope) (s : Shared) (C : Addr) (H N : Addr → Prop) : Cx :=
  { c with s₀ := s, X := fun _ => False, H := H, N := N, env := compFrame scope c.env C, st := fun n => scope.names.lookup n == some .cell }

def restr (scope : Scope) (μ : Vars) : Vars := fun y => if scope.names.lookup y = some .free then μ y else none

def compOk (scope : Scope) (env : Env) : Bool :=
  scope.kind == .function && scope.names.all fun p => scope.names.lookup p.1 == some p.2 && (p.2 != .free || ((env.cells.lookup p.1).isSome && (env.kindOf p.1 == some .cell || env.kindOf p.1 == some .free)))

theorem compOk.kind {scope : Scope} {env : Env} (h : compOk scope env = true) : scope.kind = .function := by
  unfold compOk at h; simp only [Bool.and_eq_true] at h; simpa using h.1
theorem compOk.each {scope : Scope} {env : Env} (h : compOk scope env = true) {n : Str} {k : NameKind} (hm : (n, k) ∈ scope.names) :
    scope.names.lookup n = some k ∧ (k = .free → (env.cells.lookup n).isSome = true ∧ isVarKind (env.kindOf n)) := by
  unfold compOk at h
  simp only [Bool.and_eq_true] at h
  have := List.all_eq_true.mp h.2 (n, k) hm
  simp only [Bool.and_eq_true] at this
  refine ⟨by simpa using this.1, fun hk => ?_⟩
  subst hk
  have q := this.2
  simp only [bne_self_eq_false, Bool.false_or, Bool.and_eq_true, Bool.or_eq_true, beq_iff_eq] at q
  exact ⟨q.1, q.2⟩
theorem compOk.all {scope : Scope} {env : Env} (h : compOk scope env = true) : (scope.names.all fun x => x.2 != .free || (env.cells.lookup x.1).isSome) = true := by
  refine List.all_eq_true.mpr fun x hx => ?_
  obtain ⟨n, k⟩ := x
  have := (compOk.each h hx).2
  by_cases hk : k = .free
  · rw [(this hk).1]; simp
  · simp [hk]
theorem compOk.names {scope : Scope} {env : Env} (h : compOk scope env = true) : ∀ x ∈ scope.names, x.2 = .local → scope.names.lookup x.1 = some .local := by
  intro x hx hl
  obtain ⟨n, k⟩ := x
  have := (compOk.each h hx).1
  rw [this]; exact congrArg some hl

theorem lookup_relabel {env : Env} (n : Str) : ∀ (names : List (Str × NameKind)),
    (names.map fun (n, k) => if (k == NameKind.free && env.scope.kind == .function && env.kindOf n == some .cell) then (n, NameKind.cell) else (n, k)).lookup n =
      (names.lookup n).map fun k => if (k == NameKind.free && env.scope.kind == .function && env.kindOf n == some .cell) then NameKind.cell else k
  | [] => rfl
  | (m, k) :: r => by
    have ih := lookup_relabel (env := env) n r
    show List.lookup n ((if (k == NameKind.free && env.scope.kind == .function && env.kindOf m == some .cell) = true then (m, NameKind.cell) else (m, k)) :: _) = _
    generalize hb : (k == NameKind.free && env.scope.kind == .function && env.kindOf m == some .cell) = b
    cases hx : n == m with
    | true =>
      have e : n = m := by simpa using hx
      subst e
      rw [show List.lookup n ((n, k) :: r) = some k from List.lookup_cons_self, Option.map_some, hb]
      cases b <;> simp [List.lookup_cons_self]
    | false =>
      rw [show List.lookup n ((m, k) :: r) = List.lookup n r by rw [List.lookup_cons, hx]]
      cases b <;> simp only [Bool.false_eq_true, if_true, if_false, List.lookup_cons, hx] <;> exact ih

theorem mem_of_lookup' {α β : Type} [BEq α] [LawfulBEq α] : ∀ {l : List (α × β)} {n : α} {a : β}, l.lookup n = some a → (n, a) ∈ l
  | [], _, _, h => by simp at h
  | (k, v) :: r, n, a, h => by
    rw [List.lookup_cons] at h
    cases hb : n == k with
    | true => rw [hb] at h; cases h; rw [beq_iff_eq.mp hb]; exact List.mem_cons_self
    | false => rw [hb] at h; exact List.mem_cons_of_mem _ (mem_of_lookup' h)

theorem cellsFrom_kind : ∀ (names : List (Str × NameKind)) (n : Nat) (x : Str) (a : Addr), (x, a) ∈ cellsFrom n names [] → (x, NameKind.cell) ∈ names ∧ n ≤ a
  | [], n, x, a, h => by simp [cellsFrom] at h
  | (y, k) :: r, n, x, a, h => by
    unfold cellsFrom at h
    split at h
    · rename_i hk
      rw [cellsFrom_app] at h
      rcases List.mem_append.mp h with h | h
      · have := cellsFrom_kind r (n + 1) x a h
        exact ⟨List.mem_cons_of_mem _ this.1, by omega⟩
      · simp at h
        obtain ⟨rfl, rfl⟩ := h
        have : k = .cell := by simpa using hk
        subst this
        exact ⟨List.mem_cons_self, Nat.le_refl _⟩
    · have := cellsFrom_kind r n x a h
      exact ⟨List.mem_cons_of_mem _ this.1, this.2⟩

theorem lookup_app {α : Type} (l r : List (Str × α)) (n : Str) : (l ++ r).lookup n = (l.lookup n).or (r.lookup n) := List.lookup_append

theorem wpAny_compEnv {M : Model} {A : Around} {E : Value → Shared → Prop} {s : Shared} {scope : Scope} {globals : Addr} {cl : List (Str × Addr)} {qual : Str} {outer : Env} {Q : Env → Shared → Prop}
    (h : Q { scope := scope, locals := s.heap.objs.size, globals := globals, cells := cellsFrom (s.heap.objs.size + 1) scope.names cl, qual := qual, func := none, code := outer.code, frame := outer.frame, builtins := outer.builtins }
      { s with heap := pushCells (s.heap.push { cls := .type "dict", data := .dict #[] }) scope.names }) :
    wpAny M A (newFunctionEnv scope globals cl [] qual none .none (some outer)) Q E s := by
  simp only [newFunctionEnv, Option.isSome_some, if_true]
  refine wpAny_bind (wpAny_alloc ?_)
  refine wpAny_bind (wpAny_layCells _ (fun name kind cells => by cases kind == NameKind.cell <;> simp) _ _ _ _ ?_)
  rw [show ({ s with heap := s.heap.push { cls := .type "dict", data := .dict #[] } } : Shared).heap.objs.size = s.heap.objs.size + 1 from Heap.size_push ..]
  simp only [List.forIn_nil]
  exact wpAny_bind (wpAny_pure (wpAny_pure h))

theorem FD.comp {s₁ s : Shared} {scope : Scope} {N : Addr → Prop} (hN : ∀ a, N a → (ν a).isSome = true) (hN' : ∀ a, (ν a).isSome = true → N a ∨ s₁.heap.get? a = none) (F : c.F μ ν s) (k₁ : Kp s₁ s) (hok : compOk scope c.env = true) :
    FD (c.comp scope s₁ s.heap.objs.size c.H N) (restr scope μ) ν { s with heap := pushCells (s.heap.push { cls := .type "dict", data := .dict #[] }) scope.names } := by
  have kp : Kp s { s with heap := pushCells (s.heap.push { cls := .type "dict", data := .dict #[] }) scope.names } :=
    ⟨_, s.toks, rfl, fun b o e => pushCells_keeps _ _ b o (Heap.get?_push_of_some _ e)⟩
  have F' := F.keeps kp
  have hfr : ∀ {a : Addr}, s.heap.objs.size ≤ a → c.hL.get? a = none ∧ s₁.heap.get? a = none := fun {a} ha => by
    have e := fresh_size (h := s.heap) ha
    refine ⟨F.lib.fresh e, ?_⟩
    cases q : s₁.heap.get? a with
    | none => rfl
    | some o => rw [k₁.get a o q] at e; cases e
  obtain ⟨m, cm, hn, hc, hv⟩ := F.vars
  have ok := cellsFrom_ok scope.names (s.heap.push { cls := .type "dict", data := .dict #[] }) (s.heap.objs.size + 1) [] ⟨fun _ _ hm => (nomatch hm), List.Pairwise.nil⟩ (by rw [Heap.size_push]; exact Nat.le_refl _)
  rw [Heap.size_push] at ok
  have hcells : (c.comp scope s₁ s.heap.objs.size c.H N).env.cells = cellsFrom (s.heap.objs.size + 1) scope.names [] ++ closureOf c.env.cells scope.names [] := cellsFrom_app ..
  have hcl : ∀ n a, (closureOf c.env.cells scope.names []).lookup n = some a → (n, NameKind.free) ∈ scope.names ∧ c.env.cells.lookup n = some a := by
    intro n a h
    rcases closureOf_lookup _ _ _ _ _ h with q | ⟨q1, q2⟩
    · simp at q
    · refine ⟨q1, ?_⟩
      obtain ⟨b, hb⟩ := Option.isSome_iff_exists.mp ((compOk.each hok q1).2 rfl).1
      rw [hb] at q2 ⊢
      exact congrArg some q2
  have hsplit : ∀ n a, (c.comp scope s₁ s.heap.objs.size c.H N).env.cells.lookup n = some a →
      ((cellsFrom (s.heap.objs.size + 1) scope.names []).lookup n = some a ∧ (n, a) ∈ cellsFrom (s.heap.objs.size + 1) scope.names []) ∨
      ((cellsFrom (s.heap.objs.size + 1) scope.names []).lookup n = none ∧ (n, NameKind.free) ∈ scope.names ∧ c.env.cells.lookup n = some a) := by
    intro n a h
    rw [hcells, lookup_app] at h
    cases q : (cellsFrom (s.heap.objs.size + 1) scope.names []).lookup n with
    | some b => rw [q] at h; simp at h; subst h; exact Or.inl ⟨rfl, mem_of_lookup q⟩
    | none => rw [q] at h; simp at h; exact Or.inr ⟨rfl, hcl n a h⟩
  exact {
    same := (k₁.trans kp).elim fun h ⟨tk, e, _⟩ => ⟨h, tk, e⟩
    keep := fun b o _ e => (k₁.trans kp).get b o e
    live := fun b o e => by rw [(k₁.trans kp).get b o e]; rfl
    lib := F'.lib
    fn := show scope.kind = .function from compOk.kind hok
    hid := F'.hid
    hidL := F'.hidL
    mutH := F'.mutH
    froz := F'.froz
    frozM := F'.frozM
    dom := hN
    newM := hN'
    freshL := hfr (Nat.le_refl _)
    freshC := fun n a hk hl => by
      have hk' : (scope.names.lookup n == some NameKind.cell) = true := hk
      rcases hsplit n a hl with ⟨_, q⟩ | ⟨q0, q1, q2⟩
      · exact hfr (Nat.le_of_lt (ok.empty n a q).2)
      · rw [(compOk.each hok q1).1] at hk'; cases hk'
    apart := fun n n' a h h' => by
      have old : ∀ k, (k, NameKind.free) ∈ scope.names → c.env.cells.lookup k = some a → a < s.heap.objs.size := fun k _ e => (hc k a e).lt
      rcases hsplit n a h with ⟨_, q⟩ | ⟨_, q1, q2⟩ <;> rcases hsplit n' a h' with ⟨_, r⟩ | ⟨_, r1, r2⟩
      · exact name_of_addr ok.apart q r
      · have q1 := (ok.empty n a q).2; have q2 := old n' r1 r2; exact absurd (Nat.lt_of_lt_of_le q2 (Nat.le_of_succ_le q1)) (Nat.lt_irrefl _)
      · have r1 := (ok.empty n' a r).2; have r2 := old n q1 q2; exact absurd (Nat.lt_of_lt_of_le r2 (Nat.le_of_succ_le r1)) (Nat.lt_irrefl _)
      · exact F.apart n n' a q2 r2
    vars := by
      refine ⟨fun _ => none, fun n => if ((cellsFrom (s.heap.objs.size + 1) scope.names []).lookup n).isSome = true then none else cm n,
        (Heap.Ns.new s.heap (.type "dict")).keeps (pushCells_keeps _ _), fun n a h => ?_, fun x d h => ?_⟩
      · rcases hsplit n a h with ⟨q0, q⟩ | ⟨q0, q1, q2⟩
        · dsimp only; rw [q0]; exact (ok.empty n a q).1
        · dsimp only; rw [q0]; exact (hc n a q2).keeps kp.get
      · unfold restr at h
        split at h
        · rename_i hfree
          have hmem := mem_of_lookup' hfree
          obtain ⟨v, hr, hw⟩ := hv x d h
          have ⟨hs1, hs2⟩ := (compOk.each hok hmem).2 rfl
          refine ⟨v, hr.keeps kp, Or.inr ⟨?_, ?_, ?_⟩⟩
          · show isVarKind ((relabel scope c.env).names.lookup x)
            unfold relabel
            rw [lookup_relabel, hfree]
            simp only [Option.map_some]
            split
            · exact Or.inl rfl
            · exact Or.inr rfl
          · rw [hcells, lookup_app]
            have := closureOf_isSome c.env.cells scope.names [] x (Or.inr hmem)
            obtain ⟨b, hb⟩ := Option.isSome_iff_exists.mp this
            rw [hb]
            cases (cellsFrom (s.heap.objs.size + 1) scope.names []).lookup x <;> rfl
          · have hno : (cellsFrom (s.heap.objs.size + 1) scope.names []).lookup x = none := by
              cases q : (cellsFrom (s.heap.objs.size + 1) scope.names []).lookup x with
              | none => rfl
              | some b =>
                have := (cellsFrom_kind _ _ _ _ (mem_of_lookup q)).1
                have := (compOk.each hok this).1
                rw [hfree] at this; cases this
            dsimp only
            rw [hno]
            rcases hw with ⟨hl, _⟩ | ⟨_, _, hm⟩
            · rcases hs2 with q | q <;> (rw [hl] at q; cases q)
            · exact hm
        · cases h
    muts := F'.muts }

end Mine
end
section
open PySem PySem.W PyProof.Rows
set_option autoImplicit false
set_option maxRecDepth 100000
namespace Mine
variable {c : Cx} {μ : Vars} {ν : Muts}

/-- an iterator that stands ready -/
structure IterOk (c : Cx) (ν : Muts) (s s₂ : Shared) (I : Addr) (ds : List D) (fp wr : List Addr) (Pv : Nat → Value → Prop) (St : Nat → Heap → Prop) : Prop where
  walks : Walks c.prog c.w c.A I fp wr ds.length Pv St
  st : St 0 s₂.heap
  kp : Kp s s₂
  fpOk : ∀ b ∈ fp, b ∈ wr ∨ (∃ o, s₂.heap.get? b = some o ∧ Obj.isSeq o = true ∧ ¬ c.H b ∧ ν b = none) ∨ ∃ o, c.hL.get? b = some o ∧ b ∉ tabs ∧ Obj.isFields o = true
  wrOk : ∀ b ∈ wr, s.heap.get? b = none
  fields : ∀ i h, St i h → ∀ b ∈ wr, ∃ o, h.get? b = some o ∧ Obj.isFields o = true
  vals : ∀ i v d, Pv i v → ds[i]? = some d → Rep (mask c.H ν s₂.heap) d v

/-- the expression, asked for its iterator, hands out ds -/
def EvI (c : Cx) (μ : Vars) (ν : Muts) (iter : Expr) (ds : List D) : Prop :=
  ∀ s E, c.F μ ν s → wpAny c.M c.A (eval iter c.env) (fun xv s₁ => wpAny c.M c.A (pyIter xv) (fun it s₂ => ∃ I fp wr Pv St, it = .ref I ∧ IterOk c ν s s₂ I ds fp wr Pv St) E s₁) E s

theorem EvI.list {iter : Expr} {ds : List D} (h : Ev c μ ν iter (.list ds)) (hh : c.A.handled = none) : EvI c μ ν iter ds := by
  intro s E F
  refine wpAny_mono (h s E F) (fun xv s₁ h₁ => ?_) fun _ _ e => e
  have hr := h₁.2
  simp only [Rep] at hr
  obtain ⟨a, vs, rfl, hs, hv⟩ := hr
  have hL := hs.isList
  refine wpAny_pyIter_list hL ?_
  have hlen : vs.size = ds.length := by rw [← hv.length]; simp
  have hne : a ≠ s₁.heap.objs.size := by
    obtain ⟨o, ho, _⟩ := hL
    exact Nat.ne_of_lt (Heap.lt_size ho)
  refine ⟨s₁.heap.objs.size, [s₁.heap.objs.size, a], [s₁.heap.objs.size], fun i v => vs[i]? = some v, fun i h => h.IsListIter s₁.heap.objs.size a i ∧ h.IsList a vs, rfl, ?_⟩
  have kp : Kp s₁ { s₁ with heap := s₁.heap.push { cls := .type "list_iterator", data := .fields #[.ref a, .int 0 0] } } := ⟨_, s₁.toks, rfl, fun _ _ e => Heap.get?_push_of_some _ e⟩
  exact {
    walks := hlen ▸ Walks.list hh s₁.heap.objs.size a hne vs
    st := ⟨⟨_, Heap.get?_push_size _ rfl, rfl, rfl⟩, hL.push _⟩
    kp := h₁.1.trans kp
    fpOk := fun b hb => by
      simp only [List.mem_cons, List.not_mem_nil, or_false] at hb
      rcases hb with rfl | rfl
      · exact Or.inl (by simp)
      · obtain ⟨o, ho, hc, _, n, hd⟩ := hs
        obtain ⟨q1, q2, q3⟩ := mask_some.mp ho
        exact Or.inr (Or.inl ⟨o, Heap.get?_push_of_some _ q3, by simp [Obj.isSeq, hd], q1, q2⟩)
    wrOk := fun b hb => by
      simp only [List.mem_cons, List.not_mem_nil, or_false] at hb
      subst hb
      cases q : s.heap.get? s₁.heap.objs.size with
      | none => rfl
      | some o => exact absurd (Heap.lt_size (h₁.1.get _ _ q)) (Nat.lt_irrefl _)
    fields := fun i h st b hb => by
      simp only [List.mem_cons, List.not_mem_nil, or_false] at hb
      subst hb
      obtain ⟨⟨o, ho, _, hd⟩, _⟩ := st
      exact ⟨o, ho, by simp [Obj.isFields, hd]⟩
    vals := fun i v d hv' hd => by
      obtain ⟨u, hu, hr⟩ := hv.get hd
      have : vs[i]? = some u := by simpa using hu
      rw [this] at hv'; cases hv'
      exact hr.keeps kp }

/-- the first n firstInts -/
def firstInts (n : Nat) : List D := (List.range n).map fun (i : Nat) => D.int (i : Int)

theorem EvI.range {e : Expr} {rp pos : Pos} {n : Int} (hf : Ev c μ ν (.Name "range" rp) (.val (.type "range"))) (h : Ev c μ ν e (.int n)) (hh : c.A.handled = none) (hn : n < 2 ^ 62) (hlo : -(2 ^ 62) ≤ n)
    (he : starEach [e] c.env = [(false, eval e c.env)] := by rfl) : EvI c μ ν (.Call (.Name "range" rp) [e] [] pos) (firstInts n.toNat) := by
  intro s E F
  refine wpAny_Call_NameR (wpAny_mono (hf s E F) (fun f s₁ h₁ => ?_) fun _ _ e => e)
  have hfe := h₁.2
  simp only [Rep] at hfe
  subst hfe
  have ha := (EvL.cons (pos := pos) h EvL.nil he) s₁ E (F.keeps h₁.1)
  rw [he] at ha ⊢
  refine PyProof.Rows.callWith_type (show (false || _) = false from rfl) (Calls.evalArgs_plain (wpAny_mono ha (fun vs s₂ h₂ => ?_) fun _ _ e => e))
  obtain ⟨v, rfl, hv⟩ := h₂.2.one
  simp only [Rep] at hv
  obtain ⟨t, rfl⟩ := hv
  refine call_range_1 ?_
  refine wpAny_pyIter_range (IsRange.new ..) (small_one (by decide) (by decide) hlo hn) ?_
  generalize hI : ({ s₂ with heap := s₂.heap.push { cls := Value.type "range", data := Data.fields #[Value.int 0 s₂.toks, Value.int n t, Value.int 1 (s₂.toks + 1)] }, toks := s₂.toks + 1 + 1 } : Shared) = s₃
  have k₃ : Kp s₂ s₃ := by subst hI; exact ⟨_, _, rfl, fun _ _ e => Heap.get?_push_of_some _ e⟩
  have hsz : Builtin.Range.rangeSize 0 n 1 = (n.toNat : Int) := by rw [rangeSize_one]; split <;> omega
  refine ⟨s₃.heap.objs.size, [s₃.heap.objs.size], [s₃.heap.objs.size], fun i v => ∃ t, v = .int (0 + i * 1) t, fun i h => IsRangeIter h s₃.heap.objs.size (0 + (i : Nat) * 1) ((n.toNat : Int) - (i : Nat)) 1, rfl, ?_⟩
  exact {
    walks := by rw [show (firstInts n.toNat).length = n.toNat by simp [firstInts]]; exact Walks.range hh _ 0 1 n.toNat
    st := by
      have e1 : (0 + ((0 : Nat) : Int) * 1) = 0 := by simp
      have e2 : ((n.toNat : Int) - ((0 : Nat) : Int)) = Builtin.Range.rangeSize 0 n 1 := by rw [hsz]; simp
      rw [e1, e2]
      exact Heap.get?_push_size _ rfl
    kp := ((h₁.1.trans h₂.1).trans k₃).trans ⟨_, _, rfl, fun _ _ e => Heap.get?_push_of_some _ e⟩
    fpOk := fun b hb => Or.inl hb
    wrOk := fun b hb => by
      simp only [List.mem_cons, List.not_mem_nil, or_false] at hb
      subst hb
      cases q : s.heap.get? s₃.heap.objs.size with
      | none => rfl
      | some o => exact absurd (Heap.lt_size (k₃.get _ _ (h₂.1.get _ _ (h₁.1.get _ _ q)))) (Nat.lt_irrefl _)
    fields := fun i h st b hb => by
      simp only [List.mem_cons, List.not_mem_nil, or_false] at hb
      subst hb
      exact ⟨_, st, rfl⟩
    vals := fun i v d hv' hd => by
      obtain ⟨t', rfl⟩ := hv'
      unfold firstInts at hd
      rw [List.getElem?_map] at hd
      cases q : (List.range n.toNat)[i]? with
      | none => rw [q] at hd; simp at hd
      | some j =>
        rw [q] at hd
        simp only [Option.map_some, Option.some.injEq] at hd
        have hj : j = i := by
          obtain ⟨hlt, e⟩ := List.getElem?_eq_some_iff.mp q
          simpa using e.symm
        subst hd; subst hj
        simp only [Rep]
        exact ⟨t', by simp⟩ }

/-- the tests of a comprehension's clause -/
def EvT (c : Cx) (μ : Vars) (ν : Muts) (ifs : List Expr) (b : Bool) : Prop :=
  ∀ s E, c.F μ ν s → wpAny c.M c.A (forIn ifs true fun t r => if r = true then do let ok ← isTrue t c.env (eval t c.env); pure (ForInStep.yield ok) else pure (ForInStep.yield r)) (fun ok s' => Kp s s' ∧ ok = b) E s
theorem EvT.nil : EvT c μ ν [] true := fun s _ _ => wpAny_tests_nil ⟨Kp.refl s, rfl⟩
theorem EvT.one {t : Expr} {b : Bool} (h : EvB c μ ν t b) : EvT c μ ν [t] b := fun s E F => wpAny_tests_one (h s E F)

end Mine
end
section
open PySem PySem.W PyProof.Rows
set_option autoImplicit false
set_option maxRecDepth 100000
namespace Mine
variable {c : Cx} {μ : Vars} {ν : Muts}

theorem Reps.snoc {g : View} {ds : List D} {vs : List Value} {d : D} {v : Value} (h : Reps g ds vs) (hd : Rep g d v) : Reps g (ds ++ [d]) (vs ++ [v]) :=
  h.append (by simp only [Reps]; exact ⟨v, [], rfl, hd, rfl⟩)

theorem mask_congr {H H' : Addr → Prop} {ν ν' : Muts} {h : Heap} (e : ∀ b, (H b ∨ (ν b).isSome = true) ↔ (H' b ∨ (ν' b).isSome = true)) : mask H ν h = mask H' ν' h := by
  funext b
  unfold mask
  by_cases hb : H b ∨ (ν b).isSome = true
  · rw [if_pos hb, if_pos ((e b).mp hb)]
  · rw [if_neg hb, if_neg fun q => hb ((e b).mpr q)]
theorem mask_updM {H : Addr → Prop} {a : Addr} {l l' : List D} {h : Heap} (e : ν a = some l) : mask H (updM ν a l') h = mask H ν h := by
  refine mask_congr fun b => ?_
  unfold updM
  by_cases hb : b = a
  · subst hb; simp [e]
  · simp [hb]
theorem mask_updM_le {H : Addr → Prop} {a : Addr} {l : List D} {h : Heap} : SeqLe (mask H (updM ν a l) h) (mask H ν h) := by
  intro b o e _
  rw [mask_some] at e ⊢
  obtain ⟨h1, h2, h3⟩ := e
  unfold updM at h2
  by_cases hb : b = a
  · simp [hb] at h2
  · simp only [hb, if_false] at h2; exact ⟨h1, h2, h3⟩

/-- a known mutable list is changed -/
theorem FD.mutate {s : Shared} (F : c.F μ ν s) {a : Addr} {l l' : List D} {vs' : Array Value} {h' : Heap} {tk : Nat} (hν : ν a = some l) (hp : c.X a ∨ c.s₀.heap.get? a = none)
    (hpl : h'.PlainList a vs') (hs : Heap.SameBut a s.heap h') (hr : Reps (mask c.H ν s.heap) l' vs'.toList) : c.F μ (updM ν a l') { s with heap := h', toks := tk } := by
  have le : SeqLe (mask c.H ν s.heap) (mask c.H (updM ν a l') h') := by
    rw [mask_updM hν]
    intro b o e _
    rw [mask_some] at e ⊢
    exact ⟨e.1, e.2.1, hs.extBut b o (by rintro rfl; rw [hν] at e; cases e.2.1) e.2.2⟩
  obtain ⟨hLa, vs, hp₀, _⟩ := F.muts a l hν
  obtain ⟨o₀, ho₀, hs₀⟩ := plain_seq hp₀
  have some' : ∀ b, (s.heap.get? b).isSome = true → (h'.get? b).isSome = true := fun b hb => isSome_of_sameBut hs (by obtain ⟨n, e⟩ := hpl; rw [e]; rfl) hb
  exact {
    same := by obtain ⟨h₁, t₁, rfl⟩ := F.same; exact ⟨h', tk, rfl⟩
    keep := fun b o hb e => hs.extBut b o (by
      rintro rfl
      rcases hp with q | q
      · exact hb q
      · rw [q] at e; cases e) (F.keep b o hb e)
    live := fun b o e => some' b (F.live b o e)
    lib := ⟨fun b o hb e => hs.extBut b o (by rintro rfl; rw [hLa] at e; cases e) (F.lib.get b o hb e), fun t ht => some' t (F.lib.tab t ht)⟩
    fn := F.fn
    hidL := F.hidL
    mutH := fun b hb => F.mutH b (by
      unfold updM at hb
      split at hb
      · rename_i q; rw [q, hν]; rfl
      · exact hb)
    hid := fun b hb => some' b (F.hid b hb)
    froz := fun b o e => ⟨hs.extBut b o (by rintro rfl; rw [F.frozM b l hν] at e; cases e) (F.froz b o e).1, (F.froz b o e).2⟩
    frozM := fun b k e => by
      unfold updM at e
      by_cases hb : b = a
      · subst hb; exact F.frozM b l hν
      · simp only [hb, if_false] at e; exact F.frozM b k e
    dom := fun b hb => by
      unfold updM
      split
      · rfl
      · exact F.dom b hb
    newM := fun b e => F.newM b (by
      unfold updM at e
      split at e
      · rename_i q; rw [q, hν]; rfl
      · exact e)
    freshL := F.freshL
    freshC := F.freshC
    apart := F.apart
    vars := by
      obtain ⟨m, cm, hn, hc, hv⟩ := F.vars
      refine ⟨m, cm, hn.sameBut hs (Ne.symm (ns_ne_seq hn ho₀ hs₀)), fun n b e => (hc n b e).sameBut hs (Ne.symm (cell_ne_seq (hc n b e) ho₀ hs₀)), fun x d e => ?_⟩
      obtain ⟨v, hr', hw⟩ := hv x d e
      exact ⟨v, Rep.mono le _ _ hr', hw⟩
    muts := fun b k e => by
      unfold updM at e
      by_cases hb : b = a
      · subst hb
        simp only [if_true] at e; cases e
        exact ⟨hLa, vs', hpl, Reps.mono le _ _ hr⟩
      · simp only [hb, if_false] at e
        obtain ⟨q1, us, q2, q3⟩ := F.muts b k e
        exact ⟨q1, us, q2.extBut hs.extBut hb, Reps.mono le _ _ q3⟩ }

theorem FD.fresh {s : Shared} (F : c.F μ ν s) {a : Addr} (ha : s.heap.objs.size ≤ a) : c.hL.get? a = none ∧ c.s₀.heap.get? a = none ∧ ν a = none ∧ c.g a = none ∧ ¬ c.H a := by
  have e := fresh_size (h := s.heap) ha
  refine ⟨F.lib.fresh e, ?_, FD.mut_none F ha, ?_, fun q => FD.hid_lt F q ha⟩
  · cases q : c.s₀.heap.get? a with
    | none => rfl
    | some o => have := F.live a o q; rw [e] at this; cases this
  · cases q : c.g a with
    | none => rfl
    | some o => have := (F.froz a o q).1; rw [e] at this; cases this

/-- a new mutable list -/
theorem FD.newMut {s : Shared} (F : c.F μ ν s) {l : List D} {vs : Array Value} {n tk : Nat} (hr : Reps (mask c.H ν s.heap) l vs.toList) :
    c.F μ (updM ν s.heap.objs.size l) { s with heap := s.heap.push { cls := .type "list", data := .seq vs n }, toks := tk } := by
  obtain ⟨f1, f2, f3, f4, f5⟩ := F.fresh (Nat.le_refl s.heap.objs.size)
  have kp : Kp s { s with heap := s.heap.push { cls := .type "list", data := .seq vs n }, toks := tk } := Kp.push s _ tk
  have F' := F.keeps kp
  have le : SeqLe (mask c.H ν s.heap) (mask c.H (updM ν s.heap.objs.size l) (s.heap.push { cls := .type "list", data := .seq vs n })) := by
    intro b o e _
    rw [mask_some] at e ⊢
    have hb : b ≠ s.heap.objs.size := Nat.ne_of_lt (Heap.lt_size e.2.2)
    exact ⟨e.1, by unfold updM; simp only [hb, if_false]; exact e.2.1, Heap.get?_push_of_some _ e.2.2⟩
  exact {
    same := F'.same
    keep := F'.keep
    live := F'.live
    lib := F'.lib
    fn := F.fn
    hid := F'.hid
    hidL := F'.hidL
    mutH := fun b hb => by
      unfold updM at hb
      split at hb
      · rename_i q; rw [q]; exact f5
      · exact F.mutH b hb
    froz := F'.froz
    frozM := fun b k e => by
      unfold updM at e
      by_cases hb : b = s.heap.objs.size
      · rw [hb]; exact f4
      · simp only [hb, if_false] at e; exact F.frozM b k e
    dom := fun b hb => by
      unfold updM
      split
      · rfl
      · exact F.dom b hb
    newM := fun b e => by
      unfold updM at e
      split at e
      · rename_i q; rw [q]; exact Or.inr f2
      · exact F.newM b e
    freshL := F.freshL
    freshC := F.freshC
    apart := F.apart
    vars := by
      obtain ⟨m, cm, hn, hc, hv⟩ := F.vars
      refine ⟨m, cm, hn.keeps kp.get, fun n b e => (hc n b e).keeps kp.get, fun x d e => ?_⟩
      obtain ⟨v, hr', hw⟩ := hv x d e
      exact ⟨v, Rep.mono le _ _ hr', hw⟩
    muts := fun b k e => by
      unfold updM at e
      by_cases hb : b = s.heap.objs.size
      · subst hb
        simp only [if_true] at e; cases e
        exact ⟨f1, vs, ⟨n, Heap.get?_push_size _ rfl⟩, Reps.mono le _ _ hr⟩
      · simp only [hb, if_false] at e
        obtain ⟨q1, us, q2, q3⟩ := F.muts b k e
        exact ⟨q1, us, q2.at fun o e' => kp.get b o e', Reps.mono le _ _ q3⟩ }

/-- a known mutable list is read as one hidden -/
theorem mask_known {H : Addr → Prop} {a : Addr} {l : List D} {h : Heap} (_hν : ν a = none) : mask H (updM ν a l) h = mask (fun b => H b ∨ b = a) ν h := by
  refine mask_congr fun b => ?_
  unfold updM
  by_cases hb : b = a
  · subst hb; simp
  · simp [hb]

theorem FD.hideKnown {s : Shared} {a : Addr} {l : List D} (F : c.F μ (updM ν a l) s) (hν : ν a = none) (hNa : ¬ c.N a) : FD { c with H := fun b => c.H b ∨ b = a } μ ν s where
  same := F.same
  keep := F.keep
  live := F.live
  lib := F.lib
  fn := F.fn
  mutH := fun b hb => by
    have hba : b ≠ a := by rintro rfl; rw [hν] at hb; cases hb
    rintro (q | q)
    · exact F.mutH b (by unfold updM; simp only [hba, if_false]; exact hb) q
    · exact hba q
  hidL := fun b hb => by
    rcases hb with hb | rfl
    · exact F.hidL b hb
    · exact (F.muts b l (by simp [updM])).1
  hid := fun b hb => by
    rcases hb with hb | rfl
    · exact F.hid b hb
    · obtain ⟨_, vs, ⟨n, e⟩, _⟩ := F.muts b l (by simp [updM])
      rw [e]; rfl
  froz := F.froz
  frozM := fun b k e => F.frozM b k (by
    have : b ≠ a := by rintro rfl; rw [hν] at e; cases e
    simp only [updM, this, if_false]; exact e)
  dom := fun b hb => by
    have q := F.dom b hb
    unfold updM at q
    split at q
    · rename_i r; rw [r] at hb; exact absurd hb hNa
    · exact q
  newM := fun b e => F.newM b (by
    unfold updM
    split
    · rfl
    · exact e)
  freshL := F.freshL
  freshC := F.freshC
  apart := F.apart
  vars := by
    obtain ⟨m, cm, hn, hc, hv⟩ := F.vars
    refine ⟨m, cm, hn, hc, fun x d e => ?_⟩
    obtain ⟨v, hr, hw⟩ := hv x d e
    rw [mask_known hν] at hr
    exact ⟨v, hr, hw⟩
  muts := fun b k e => by
    have : b ≠ a := by rintro rfl; rw [hν] at e; cases e
    obtain ⟨q1, us, q2, q3⟩ := F.muts b k (by simp only [updM, this, if_false]; exact e)
    rw [mask_known hν] at q3
    exact ⟨q1, us, q2, q3⟩

theorem FD.weaken {s : Shared} {μ' : Vars} (F : c.F μ ν s) (h : ∀ x d, μ' x = some d → μ x = some d) : c.F μ' ν s where
  same := F.same
  keep := F.keep
  live := F.live
  lib := F.lib
  fn := F.fn
  hid := F.hid
  hidL := F.hidL
  mutH := F.mutH
  froz := F.froz
  frozM := F.frozM
  dom := F.dom
  newM := F.newM
  freshL := F.freshL
  freshC := F.freshC
  apart := F.apart
  vars := by
    obtain ⟨m, cm, hn, hc, hv⟩ := F.vars
    exact ⟨m, cm, hn, hc, fun x d e => hv x d (h x d e)⟩
  muts := F.muts

theorem upd_upd (μ : Vars) (x : Str) (d d' : D) : upd (upd μ x d) x d' = upd μ x d' := by
  funext y; unfold upd; split <;> rfl

theorem FD.append {s : Shared} {E : Value → Shared → Prop} (F : c.F μ ν s) {a : Addr} {l : List D} {d : D} {v : Value} {Q : Value → Shared → Prop} (hν : ν a = some l) (hp : c.X a ∨ c.s₀.heap.get? a = none)
    (hr : Rep (mask c.H ν s.heap) d v) (hsz : l.length < 16777216) (h : ∀ s', c.F μ (updM ν a (l ++ [d])) s' → Q .none s') : wpAny c.M c.A (call (.builtin "list.append") [.ref a, v]) Q E s := by
  obtain ⟨_, vs, hpl, hl⟩ := F.muts a l hν
  have hlen : vs.size = l.length := by rw [← hl.length]; simp
  refine wpAny_list_append_plain (hsz := by rw [hlen, sizeLine_eq]; omega) hpl fun h' hp' hs' => h _ ?_
  exact F.mutate (tk := s.toks) hν hp hp' hs' (by simpa using hl.snoc hr)

end Mine
end
section
open PySem PySem.W PyProof.Rows
set_option autoImplicit false
set_option maxRecDepth 100000
namespace Mine
variable {c : Cx} {μ : Vars} {ν : Muts}

theorem own_comp {scope : Scope} {x : Str} {s : Shared} {C : Addr} {H N : Addr → Prop} (hx : scope.names.lookup x = some .local ∨ scope.names.lookup x = some .cell) : Own (c.comp scope s C H N) x := by
  rcases hx with hx | hx
  · refine Or.inl ?_
    show (relabel scope c.env).names.lookup x = _
    unfold relabel
    rw [lookup_relabel, hx]; rfl
  · refine Or.inr ⟨?_, ?_, ?_⟩
    · show (relabel scope c.env).names.lookup x = _
      unfold relabel
      rw [lookup_relabel, hx]; rfl
    · exact cellsFrom_some _ _ _ (.inl hx)
    · show (scope.names.lookup x == some .cell) = true
      rw [hx]; rfl

theorem restr_own {scope : Scope} {x : Str} (hx : scope.names.lookup x = some .local ∨ scope.names.lookup x = some .cell) : restr scope μ x = none := by
  unfold restr
  rcases hx with hx | hx <;> rw [hx] <;> rfl

theorem weaken_own {μ₀ : Vars} {x : Str} {d : D} (h : μ₀ x = none) : ∀ y e, μ₀ y = some e → upd μ₀ x d y = some e := by
  intro y e hy
  unfold upd
  split
  · rename_i q; rw [q, h] at hy; cases hy
  · exact hy

theorem FD.iter {s : Shared} (F : c.F μ ν s) {h' : Heap} {tk : Nat} {wr : List Addr} (hk : ∀ b o, b ∉ wr → s.heap.get? b = some o → h'.get? b = some o)
    (h0 : ∀ b ∈ wr, c.s₀.heap.get? b = none ∧ c.hL.get? b = none ∧ c.g b = none) (h1 : ∀ b ∈ wr, ∃ o, s.heap.get? b = some o ∧ Obj.isFields o = true) (h2 : ∀ b ∈ wr, ∃ o, h'.get? b = some o ∧ Obj.isFields o = true) :
    c.F μ ν { s with heap := h', toks := tk } :=
  F.step hk fun b hb => by
    obtain ⟨o, ho, hf⟩ := h1 b hb
    obtain ⟨o', ho', _⟩ := h2 b hb
    exact ⟨(h0 b hb).1, (h0 b hb).2.1, Or.inl (by rw [ho']; rfl), o, ho, Or.inl ⟨hf, (h0 b hb).2.2⟩⟩

theorem Kp.fresh {s s' : Shared} (k : Kp s s') {a : Addr} (h : s'.heap.get? a = none) : s.heap.get? a = none := by
  cases q : s.heap.get? a with
  | none => rfl
  | some o => rw [k.get a o q] at h; cases h

theorem FD.g_none {s : Shared} (F : c.F μ ν s) {b : Addr} (e : s.heap.get? b = none) : c.g b = none := by
  cases q : c.g b with
  | none => rfl
  | some o => have := (F.froz b o q).1; rw [e] at this; cases this

theorem updM_self {a : Addr} {l : List D} : updM ν a l a = some l := by simp [updM]

/-- what stands behind a comprehension's loop -/
structure CompEnd (c : Cx) (ν : Muts) (s : Shared) (out : List D) (D' C : Addr) (s' : Shared) : Prop where
  kp : Kp s s'
  ns : ∃ m, s'.heap.Ns C m
  newC : s.heap.get? C = none
  newD : s.heap.get? D' = none
  ne : D' ≠ C
  acc : ∃ vs, s'.heap.PlainList D' vs ∧ Reps (mask c.H ν s'.heap) out vs.toList
  free : ν D' = none ∧ ¬ c.H D' ∧ c.hL.get? D' = none ∧ c.s₀.heap.get? D' = none

theorem CompEnd.rep {s s' : Shared} {out : List D} {D' C : Addr} (h : CompEnd c ν s out D' C s') : Rep (mask c.H ν s'.heap) (.list out) (.ref D') := by
  obtain ⟨vs, ⟨n, hp⟩, hr⟩ := h.acc
  simp only [Rep]
  exact ⟨D', vs, rfl, ⟨_, mask_some.mpr ⟨h.free.2.1, h.free.1, hp⟩, rfl, rfl, n, rfl⟩, hr⟩

end Mine
end
section
open PySem PySem.W PyProof.Rows
set_option autoImplicit false
set_option maxRecDepth 100000
namespace Mine
variable {c : Cx} {μ : Vars} {ν : Muts}

/-- all data that can be read stays as it is -/
noncomputable def freeze (c : Cx) (ν : Muts) (h : Heap) : View := fun b => match c.g b with
  | some o => some o
  | none => (match mask c.H ν h b with | some o => if Obj.isSeq o then some o else none | none => none)

theorem freeze_cases {h : Heap} {b : Addr} {o : Obj} (e : freeze c ν h b = some o) : c.g b = some o ∨ (c.g b = none ∧ mask c.H ν h b = some o ∧ Obj.isSeq o = true) := by
  unfold freeze at e
  cases q : c.g b with
  | some o' => rw [q] at e; exact Or.inl e
  | none =>
    rw [q] at e
    dsimp only at e
    cases r : mask c.H ν h b with
    | none => rw [r] at e; cases e
    | some o' =>
      rw [r] at e
      dsimp only at e
      split at e
      · cases e; rename_i hs; exact Or.inr ⟨rfl, rfl, hs⟩
      · cases e
theorem freeze_mask {h : Heap} {b : Addr} {o : Obj} (F : ∀ o', c.g b = some o' → h.get? b = some o') (e : mask c.H ν h b = some o) (hs : Obj.isSeq o = true) : freeze c ν h b = some o := by
  unfold freeze
  cases q : c.g b with
  | some o' => have := F o' q; rw [(mask_some.mp e).2.2] at this; exact this.symm
  | none => rw [e]; simp [hs]

theorem FD.setG {s : Shared} (F : c.F μ ν s) (g : View) (h1 : ∀ a o, g a = some o → s.heap.get? a = some o ∧ (Obj.isSeq o = true ∨ Obj.isFields o = true)) (h2 : ∀ a l, ν a = some l → g a = none) : FD { c with g := g } μ ν s where
  same := F.same
  keep := F.keep
  live := F.live
  lib := F.lib
  fn := F.fn
  hid := F.hid
  hidL := F.hidL
  mutH := F.mutH
  froz := h1
  frozM := h2
  dom := F.dom
  newM := F.newM
  freshL := F.freshL
  freshC := F.freshC
  apart := F.apart
  vars := F.vars
  muts := F.muts

theorem FD.freeze {s : Shared} (F : c.F μ ν s) : FD { c with g := freeze c ν s.heap } μ ν s :=
  F.setG _ (fun a o e => by
      rcases freeze_cases e with q | ⟨_, q, hs⟩
      · exact F.froz a o q
      · exact ⟨(mask_some.mp q).2.2, Or.inl hs⟩)
    (fun a l e => by
      cases q : Mine.freeze c ν s.heap a with
      | none => rfl
      | some o =>
        rcases freeze_cases q with r | ⟨_, r, _⟩
        · rw [F.frozM a l e] at r; cases r
        · rw [mask_some] at r; rw [e] at r; cases r.2.1)

/-- fewer things are known to stay -/
theorem FD.lessG {s : Shared} {g : View} (F : FD { c with g := g } μ ν s) (h : ∀ a o, c.g a = some o → g a = some o) : c.F μ ν s where
  same := F.same
  keep := F.keep
  live := F.live
  lib := F.lib
  fn := F.fn
  hid := F.hid
  hidL := F.hidL
  mutH := F.mutH
  froz := fun a o e => F.froz a o (h a o e)
  frozM := fun a l e => by
    have q : g a = none := F.frozM a l e
    cases r : c.g a with
    | none => rfl
    | some o => rw [h a o r] at q; cases q
  dom := F.dom
  newM := F.newM
  freshL := F.freshL
  freshC := F.freshC
  apart := F.apart
  vars := F.vars
  muts := F.muts

def pin (g : View) (wr : List Addr) (h : Heap) : View := fun b => if b ∈ wr then h.get? b else g b

/-- the end of a turn -/
def LoopP (c : Cx) (J B : Vars → Muts → Prop) (P : Flow → Shared → Prop) : Flow → Shared → Prop := fun f s' => match f with
  | .next => ∃ μ ν, J μ ν ∧ c.F μ ν s'
  | .cont => ∃ μ ν, J μ ν ∧ c.F μ ν s'
  | .brk => ∃ μ ν, B μ ν ∧ c.F μ ν s'
  | .ret v => P (.ret v) s'

theorem Ex.forLoop {x : Str} {px pos : Pos} {iter : Expr} {body orelse rest : List Stmt} {ds : List D} {P : Flow → Shared → Prop} {E : Value → Shared → Prop} (J : Nat → Vars → Muts → Prop) (B : Vars → Muts → Prop)
    (hi : EvI c μ ν iter ds) (hx : Own c x) (h0 : J 0 μ ν)
    (turn : ∀ g i d μ' ν', ds[i]? = some d → J i μ' ν' → Ex { c with g := g } (upd μ' x d) ν' body (LoopP { c with g := g } (J (i + 1)) B P) (fun _ _ => False))
    (brk : ∀ μ' ν', B μ' ν' → Ex c μ' ν' rest P E)
    (fin : ∀ μ' ν', J ds.length μ' ν' → Ex c μ' ν' orelse (thenP c rest P E) (fun _ _ => False))
    (hs : ∀ v, foldedSetIterable iter c.env v = pure v := by intro _; rfl) :
    Ex c μ ν (.For (.Name x px) iter body orelse pos :: rest) P E := by
  refine Ex.cons fun s F => wpAny_For ?_ hs
  refine wpAny_mono (hi s E F) (fun xv s₁ h₁ => wpAny_mono h₁ (fun it s₂ h₂ => ?_) fun _ _ e => e) fun _ _ e => e
  obtain ⟨I, fp, wr, Pv, St, rfl, K⟩ := h₂
  have F2 := (F.keeps K.kp).freeze
  let c' : Cx := { c with g := Mine.freeze c ν s₂.heap }
  have gOk : ∀ b o, c.g b = some o → s₂.heap.get? b = some o := fun b o e => ((F.keeps K.kp).froz b o e).1
  have hgw : ∀ b ∈ wr, c'.g b = none := fun b hb => by
    cases q : c'.g b with
    | none => rfl
    | some o =>
      rcases freeze_cases q with r | ⟨_, r, hs'⟩
      · rw [F.g_none (K.wrOk b hb)] at r; cases r
      · obtain ⟨o', ho', hf⟩ := K.fields 0 _ K.st b hb
        rw [(mask_some.mp r).2.2] at ho'; cases ho'
        exact (seq_not_fields hs' hf).elim
  have hs0 : ∀ b ∈ wr, c.s₀.heap.get? b = none := fun b hb => by
    cases q : c.s₀.heap.get? b with
    | none => rfl
    | some o => have := F.live b o q; rw [K.wrOk b hb] at this; cases this
  have hfw : ∀ b ∈ wr, c'.s₀.heap.get? b = none ∧ c'.hL.get? b = none ∧ c'.g b = none := fun b hb => ⟨hs0 b hb, F.lib.fresh (K.wrOk b hb), hgw b hb⟩
  refine codeAny_forLoop (fun n s' => ∃ i μ' ν', i ≤ ds.length ∧ n = ds.length + 1 - i ∧ St i s'.heap ∧ J i μ' ν' ∧ c'.F μ' ν' s') ?_ (ds.length + 1) ⟨0, μ, ν, Nat.zero_le _, rfl, K.st, h0, F2⟩
  rintro n s' ⟨i, μ', ν', hile, rfl, hst', hJ, G'⟩
  by_cases hlt : i < ds.length
  · refine K.walks.item i s' _ _ hlt hst' fun v h₁ tk₁ hPv hst₁ hk₁ => ?_
    have G1 : c'.F μ' ν' { s' with heap := h₁, toks := tk₁ } := G'.iter hk₁ hfw (K.fields i _ hst') (K.fields (i + 1) _ hst₁)
    have hd : ds[i]? = some ds[i] := List.getElem?_eq_getElem hlt
    generalize ds[i] = d at hd
    have le₂ : SeqLe (mask c.H ν s₂.heap) (mask c.H ν' h₁) := by
      intro b o e q
      have hg : c'.g b = some o := freeze_mask (gOk b) e q
      have hν' : ν' b = none := by
        cases r : ν' b with
        | none => rfl
        | some l => have := G'.frozM b l r; rw [hg] at this; cases this
      exact mask_some.mpr ⟨(mask_some.mp e).1, hν', (G1.froz b o hg).1⟩
    let g'' : View := pin c'.g wr h₁
    have G1' : FD { c with g := g'' } μ' ν' { s' with heap := h₁, toks := tk₁ } := FD.setG (c := c') G1 g'' (fun b o e => by
        by_cases hb : b ∈ wr
        · obtain ⟨o', ho', hf⟩ := K.fields (i + 1) _ hst₁ b hb
          have e' : h₁.get? b = some o := by simpa [g'', pin, hb] using e
          rw [ho'] at e'; cases e'
          exact ⟨ho', Or.inr hf⟩
        · exact G1.froz b o (by simpa [g'', pin, hb] using e)) (fun b l e => by
        by_cases hb : b ∈ wr
        · obtain ⟨o', ho', hf⟩ := K.fields (i + 1) _ hst₁ b hb
          obtain ⟨_, vs, ⟨n, hp⟩, _⟩ := G1.muts b l e
          have hp' : h₁.get? b = _ := hp
          rw [ho'] at hp'; cases hp'
          simp [Obj.isFields] at hf
        · show pin c'.g wr h₁ b = none
          simp only [pin, hb, if_false]; exact G1.frozM b l e)
    have back : ∀ μ'' ν'' (s₆ : Shared), FD { c with g := g'' } μ'' ν'' s₆ → c'.F μ'' ν'' s₆ ∧ St (i + 1) s₆.heap ∧ c.F μ'' ν'' s₆ := fun μ'' ν'' s₆ G6 => by
      have low : ∀ b o, c'.g b = some o → g'' b = some o := fun b o e => by
        have hb : b ∉ wr := fun q => by rw [hgw b q] at e; cases e
        show pin c'.g wr h₁ b = some o
        simp only [pin, hb, if_false]; exact e
      have G7 : c'.F μ'' ν'' s₆ := FD.lessG (c := c') G6 low
      refine ⟨G7, K.walks.frame _ _ _ hst₁ fun b hb o e => ?_, FD.lessG (c := c) G7 fun b o e => ?_⟩
      · by_cases q : b ∈ wr
        · exact (G6.froz b o (by show pin c'.g wr h₁ b = some o; simp only [pin, q, if_true]; exact e)).1
        · rcases K.fpOk b hb with r | ⟨o', ho', hs', hH, hν⟩ | ⟨o', ho', ht', hf'⟩
          · exact absurd r q
          · have hg : c'.g b = some o' := freeze_mask (gOk b) (mask_some.mpr ⟨hH, hν, ho'⟩) hs'
            have e1 := (G1.froz b o' hg).1
            have e2 : h₁.get? b = some o' := e1
            rw [e2] at e; cases e
            exact (G7.froz b _ hg).1
          · have e2 : h₁.get? b = some o' := G1.lib.get b o' ht' ho'
            rw [e2] at e; cases e
            exact G7.lib.get b _ ht' ho'
      · show Mine.freeze c ν s₂.heap b = some o
        unfold Mine.freeze; rw [e]
    refine wpAny_assign_Name (FD.store (c := { c with g := g'' }) (d := d) G1' hx (Rep.mono le₂ _ _ (K.vals i v d hPv hd)) fun s₅ G5 st5 => ?_)
    refine wpAny_mono (turn g'' i d μ' ν' hd hJ s₅ G5) (fun f s₆ h₆ => ?_) fun _ _ e => e.elim
    cases f with
    | next =>
      obtain ⟨μ'', ν'', hJ', G6⟩ := h₆
      obtain ⟨q1, q2, _⟩ := back _ _ _ G6
      exact ⟨ds.length + 1 - (i + 1), by omega, i + 1, μ'', ν'', hlt, rfl, q2, hJ', q1⟩
    | cont =>
      obtain ⟨μ'', ν'', hJ', G6⟩ := h₆
      obtain ⟨q1, q2, _⟩ := back _ _ _ G6
      exact ⟨ds.length + 1 - (i + 1), by omega, i + 1, μ'', ν'', hlt, rfl, q2, hJ', q1⟩
    | brk =>
      obtain ⟨μ'', ν'', hB, G6⟩ := h₆
      exact brk μ'' ν'' hB _ (back _ _ _ G6).2.2
    | ret v => exact h₆
  · have hi : i = ds.length := by omega
    subst hi
    refine K.walks.done s' _ _ hst' fun h₁ tk₁ hk₁ => ?_
    have G1 : c'.F μ' ν' { s' with heap := h₁, toks := tk₁ } := G'.step hk₁ fun b hb => by
      obtain ⟨o, ho, hf⟩ := K.fields _ _ hst' b hb
      refine ⟨hs0 b hb, F.lib.fresh (K.wrOk b hb), Or.inr ⟨fun q => ?_, fun q => ?_⟩, o, ho, Or.inl ⟨hf, hgw b hb⟩⟩
      · have := F.hid b q; rw [K.wrOk b hb] at this; cases this
      · have := F.lib.tab b q; rw [K.wrOk b hb] at this; cases this
    have G2 : c.F μ' ν' { s' with heap := h₁, toks := tk₁ } := FD.lessG (c := c) G1 fun b o e => by
      show Mine.freeze c ν s₂.heap b = some o
      unfold Mine.freeze; rw [e]
    exact wpAny_mono (fin μ' ν' hJ _ G2) (fun f s₃ h => h) fun _ _ e => e.elim
end Mine
end
section
open PySem PySem.W PyProof.Rows
set_option autoImplicit false
set_option maxRecDepth 100000
namespace Mine
variable {c : Cx} {μ : Vars} {ν : Muts}

/-- lists of ints; lists of those -/
abbrev li (ns : List Int) : D := .list (ns.map D.int)
abbrev ll (rs : List (List Int)) : D := .list (rs.map li)

theorem Reps.ints {g : View} : ∀ {ns : List Int} {vs : List Value}, Reps g (ns.map D.int) vs → IntsAre vs ns
  | [], _, h => by simp only [List.map_nil, Reps] at h; subst h; exact .nil
  | n :: ns, _, h => by
    simp only [List.map_cons, Reps, Rep] at h
    obtain ⟨v, r, rfl, ⟨t, rfl⟩, hr⟩ := h
    exact .cons n t (Reps.ints hr)
theorem Reps.ofInts {g : View} {vs : List Value} {ns : List Int} (h : IntsAre vs ns) : Reps g (ns.map D.int) vs := by
  induction h with
  | nil => simp [Reps]
  | cons n t _ ih => simp only [List.map_cons, Reps, Rep]; exact ⟨_, _, rfl, ⟨t, rfl⟩, ih⟩

abbrev pli (ns : List Int) : PyData := .list (ns.map PyData.int)
abbrev pll (rs : List (List Int)) : PyData := .list (rs.map pli)

theorem ints_reads {h : Heap} {vs : List Value} {ns : List Int} (x : IntsAre vs ns) : ReadsAll h vs (ns.map PyData.int) [] := by
  induction x with
  | nil => exact .nil
  | cons n t _ ih => exact .cons (as := []) (.int n t) ih
theorem li_reads {g : View} {h : Heap} {ns : List Int} {v : Value} (le : ∀ a o, g a = some o → h.get? a = some o) (r : Rep g (li ns) v) : ∃ as, Reads h v (pli ns) as := by
  simp only [li, Rep] at r
  obtain ⟨a, vs, rfl, ⟨o, ho, hc, _, n, hd⟩, hr⟩ := r
  exact ⟨_, .list (le a o ho) hc hd (ints_reads hr.ints)⟩
theorem lis_reads {g : View} {h : Heap} (le : ∀ a o, g a = some o → h.get? a = some o) : ∀ {rs : List (List Int)} {vs : List Value}, Reps g (rs.map li) vs → ∃ as, ReadsAll h vs (rs.map pli) as
  | [], _, r => by simp only [List.map_nil, Reps] at r; subst r; exact ⟨_, .nil⟩
  | x :: rs, _, r => by
    simp only [List.map_cons, Reps] at r
    obtain ⟨v, us, rfl, hv, hu⟩ := r
    obtain ⟨as, h1⟩ := li_reads le hv
    obtain ⟨bs, h2⟩ := lis_reads le hu
    exact ⟨_, .cons h1 h2⟩
theorem ll_reads {g : View} {h : Heap} {rs : List (List Int)} {v : Value} (le : ∀ a o, g a = some o → h.get? a = some o) (r : Rep g (ll rs) v) : ∃ as, Reads h v (pll rs) as := by
  simp only [ll, Rep] at r
  obtain ⟨a, vs, rfl, ⟨o, ho, hc, _, n, hd⟩, hr⟩ := r
  obtain ⟨as, h1⟩ := lis_reads le hr
  exact ⟨_, .list (le a o ho) hc hd h1⟩
theorem mask_get {H : Addr → Prop} {ν : Muts} {h : Heap} : ∀ a o, mask H ν h a = some o → h.get? a = some o := fun _ _ e => (mask_some.mp e).2.2

theorem canLay_ints : ∀ ns : List Int, PyData.canLayAll0 (ns.map PyData.int) = true
  | [] => rfl
  | n :: ns => by simp [PyData.canLayAll0, PyData.canLay0, canLay_ints ns]
theorem canLay_lis : ∀ rs : List (List Int), PyData.canLayAll0 (rs.map pli) = true
  | [] => rfl
  | r :: rs => by simp [PyData.canLayAll0, PyData.canLay0, canLay_ints r, canLay_lis rs]
theorem depth_ints : ∀ ns : List Int, PyData.depthAll (ns.map PyData.int) ≤ 1
  | [] => by simp [PyData.depthAll]
  | n :: ns => by have := depth_ints ns; simp [PyData.depthAll, PyData.depth]; omega
theorem depth_lis : ∀ rs : List (List Int), PyData.depthAll (rs.map pli) ≤ 2
  | [] => by simp [PyData.depthAll]
  | r :: rs => by have := depth_lis rs; have := depth_ints r; simp [PyData.depthAll, PyData.depth]; omega
theorem eqv_ints : ∀ a b : List Int, PyData.eqvAll (a.map PyData.int) (b.map PyData.int) = decide (a = b)
  | [], [] => by simp [PyData.eqvAll]
  | [], _ :: _ => by simp [PyData.eqvAll]
  | _ :: _, [] => by simp [PyData.eqvAll]
  | x :: a, y :: b => by
    simp only [List.map_cons, PyData.eqvAll, PyData.eqv, eqv_ints a b, List.cons.injEq, Bool.decide_and]
    rfl
theorem eqv_lis : ∀ a b : List (List Int), PyData.eqvAll (a.map pli) (b.map pli) = decide (a = b)
  | [], [] => by simp [PyData.eqvAll]
  | [], _ :: _ => by simp [PyData.eqvAll]
  | _ :: _, [] => by simp [PyData.eqvAll]
  | x :: a, y :: b => by
    simp only [List.map_cons, PyData.eqvAll, PyData.eqv, eqv_lis a b, eqv_ints, List.cons.injEq, Bool.decide_and]

theorem op_eq_li {a b : List Int} (r : Room c.A 0) : Op2 c μ ν (compareOp .Eq) (li a) (li b) (.bool (decide (a = b))) := fun s E x y F hx hy => by
  obtain ⟨as, h1⟩ := li_reads mask_get hx
  obtain ⟨bs, h2⟩ := li_reads mask_get hy
  refine SeqAt.compareEq_reads h1 h2 (canLay_ints a) (canLay_ints b) (by have := r.units; have := depth_ints a; simp only [PyData.depth]; omega) ⟨Kp.refl s, ?_⟩
  simp only [PyData.eqv, eqv_ints, Rep]
theorem op_ne_li {a b : List Int} (r : Room c.A 0) : Op2 c μ ν (compareOp .NotEq) (li a) (li b) (.bool (decide (a ≠ b))) := fun s E x y F hx hy => by
  obtain ⟨as, h1⟩ := li_reads mask_get hx
  obtain ⟨bs, h2⟩ := li_reads mask_get hy
  refine SeqAt.compareNe_reads h1 h2 (canLay_ints a) (canLay_ints b) (by have := r.units; have := depth_ints a; simp only [PyData.depth]; omega) ⟨Kp.refl s, ?_⟩
  simp [PyData.eqv, eqv_ints, Rep]
theorem op_ne_ll {a b : List (List Int)} (r : Room c.A 0) : Op2 c μ ν (compareOp .NotEq) (ll a) (ll b) (.bool (decide (a ≠ b))) := fun s E x y F hx hy => by
  obtain ⟨as, h1⟩ := ll_reads mask_get hx
  obtain ⟨bs, h2⟩ := ll_reads mask_get hy
  refine SeqAt.compareNe_reads h1 h2 (canLay_lis a) (canLay_lis b) (by have := r.units; have := depth_lis a; simp only [PyData.depth]; omega) ⟨Kp.refl s, ?_⟩
  simp [PyData.eqv, eqv_lis, Rep]

theorem op_in {k : Int} {ns : List Int} {d : D} (hd : LD ν d (ns.map D.int)) : Op2 c μ ν (compareOp .In) (.int k) d (.bool (ns.any (· == k))) := fun s E x y F hx hy => by
  simp only [Rep] at hx
  obtain ⟨t, rfl⟩ := hx
  obtain ⟨l, vs, rfl, hl, hr⟩ := hd.open F hy
  exact in_list_ints (vs := vs.toList) (by simpa using hl) hr.ints ⟨Kp.refl s, rfl⟩

theorem call_len {d : D} {ds : List D} (hd : LD ν d ds) (hsz : ds.length < 2 ^ 62) : CallIs c μ ν (.builtin "len") [d] (.int ds.length) := fun s E vs F hr => by
  obtain ⟨v, rfl, hv⟩ := hr.one
  obtain ⟨l, us, rfl, hl, hu⟩ := hd.open F hv
  have e : us.size = ds.length := by rw [← hu.length]; simp
  refine Calls.call_len_list hl (by rw [e]; omega) ⟨Kp.tok s _, ?_⟩
  simp only [Rep]; exact ⟨_, by rw [e]⟩

theorem kp_of {s : Shared} {h' : Heap} {tk : Nat} (hk : ∀ b o, s.heap.get? b = some o → h'.get? b = some o) : Kp s { s with heap := h', toks := tk } := ⟨h', tk, rfl, hk⟩

theorem call_sum {ns : List Int} {d : D} (hd : LD ν d (ns.map D.int)) (hh : c.A.handled = none) : CallIs c μ ν (.builtin "sum") [d] (.int ns.sum) := fun s E vs F hr => by
  obtain ⟨v, rfl, hv⟩ := hr.one
  obtain ⟨l, us, rfl, hl, hu⟩ := hd.open F hv
  obtain ⟨xs, e⟩ := hu.ints.allInts.items
  have hns : ns = xs.toList.map (·.1) := by rw [← hu.ints.numsOf, ← nums_intItems, ← e]
  have e' : us = intItems xs := by rw [← e]
  rw [e'] at hl
  refine sum_intListG hh hl fun h' tk t' hk => ⟨kp_of hk, ?_⟩
  simp only [Rep]
  exact ⟨t', by rw [preSum_eq, List.take_of_length_le (by simp), hns]⟩

/-- the least -/
def IsMin (ns : List Int) (m : Int) : Prop := m ∈ ns ∧ ∀ a ∈ ns, m ≤ a
theorem call_min {ns : List Int} {m : Int} {d : D} (hd : LD ν d (ns.map D.int)) (hm : IsMin ns m) (hh : c.A.handled = none) : CallIs c μ ν (.builtin "min") [d] (.int m) := fun s E vs F hr => by
  obtain ⟨v, rfl, hv⟩ := hr.one
  obtain ⟨l, us, rfl, hl, hu⟩ := hd.open F hv
  obtain ⟨xs, e⟩ := hu.ints.allInts.items
  have hns : ns = xs.toList.map (·.1) := by rw [← hu.ints.numsOf, ← nums_intItems, ← e]
  have e' : us = intItems xs := by rw [← e]
  rw [e'] at hl
  have hsz : 0 < xs.size := by
    have h3 := List.length_pos_of_mem hm.1; rw [hns, List.length_map, Array.length_toList] at h3; exact h3
  refine min_intList hh hl hsz fun v h' tk hv' hk => ⟨kp_of hk, ?_⟩
  obtain ⟨t, rfl⟩ := intItems_at hv'
  obtain ⟨h1, h2⟩ := argBest_lt (numAt xs) (xs.size - 1)
  simp only [Rep]
  refine ⟨t, ?_⟩
  congr 1
  have hmem : numAt xs (argBest (fun i j => decide (numAt xs i < numAt xs j)) (xs.size - 1)) ∈ ns := by
    rw [hns, numAt_eq]; exact getD_mem (by rw [List.length_map, Array.length_toList]; omega)
  have hle : ∀ a ∈ ns, numAt xs (argBest (fun i j => decide (numAt xs i < numAt xs j)) (xs.size - 1)) ≤ a := fun a ha => by
    rw [hns] at ha
    obtain ⟨j, hj, rfl⟩ := mem_getD ha
    rw [List.length_map, Array.length_toList] at hj
    rw [← numAt_eq]; exact h2 j (by omega)
  have := hm.2 _ hmem
  have := hle _ hm.1
  omega

theorem call_min2 {a b : Int} (hh : c.A.handled = none) : CallIs c μ ν (.builtin "min") [.int a, .int b] (.int (min a b)) := fun s E vs F hr => by
  simp only [Reps, Rep] at hr
  obtain ⟨v, r, rfl, ⟨t, rfl⟩, u, q, rfl, ⟨t', rfl⟩, rfl⟩ := hr
  refine min_two_ints hh fun h' tk hk => ⟨kp_of hk, ?_⟩
  simp only [Rep]
  split
  · exact ⟨t', by rw [Int.min_def, if_neg (by omega)]⟩
  · exact ⟨t, by rw [Int.min_def, if_pos (by omega)]⟩

end Mine
end
section
open PySem PySem.W PyProof.Rows
set_option autoImplicit false
set_option maxRecDepth 100000
namespace Mine
variable {c : Cx} {μ : Vars} {ν : Muts}

theorem kp_push {s : Shared} {o : Obj} : Kp s { s with heap := s.heap.push o } := ⟨_, s.toks, rfl, fun _ _ e => Heap.get?_push_of_some _ e⟩

/-- lists put together -/
theorem op_cat {d₁ d₂ : D} {as bs : List D} (h1 : LD ν d₁ as) (h2 : LD ν d₂ bs) (hsz : as.length + bs.length ≤ 16777216) : Op2 c μ ν (binaryOp .Add) d₁ d₂ (.list (as ++ bs)) := fun s E x y F hx hy => by
  obtain ⟨l, vs, rfl, hl, hr⟩ := h1.open F hx
  obtain ⟨b, ws, rfl, hb, hq⟩ := h2.open F hy
  obtain ⟨⟨cls, dd, data, sl⟩, ho, hc, n, hd⟩ := id hl
  obtain ⟨⟨cls2, dd2, data2, sl2⟩, ho2, hc2, n2, hd2⟩ := id hb
  simp only at hc hd hc2 hd2
  subst hc hd hc2 hd2
  have e1 : vs.size = as.length := by rw [← hr.length]; simp
  have e2 : ws.size = bs.length := by rw [← hq.length]; simp
  refine concat_meets ⟨_, ho, rfl⟩ ⟨_, ho2, rfl⟩ noFill_list_add seq_list_add PySem.F.slot_list_add PySem.F.entry_list_add (PySem.F.args_list_add_2 _ _) (list_addW l b vs ws n n2 dd dd2 sl sl2 (by rw [e1, e2, sizeLine_eq]; exact hsz)) ⟨ho, ho2, ?_⟩
  exact ⟨kp_push, rep_newList F (by simpa using hr.append hq)⟩

theorem Reps.replicate {g : View} {ds : List D} {vs : List Value} (h : Reps g ds vs) : ∀ n : Nat, Reps g (List.replicate n ds).flatten (List.replicate n vs).flatten
  | 0 => by simp [Reps]
  | n + 1 => by
    simp only [List.replicate_succ, List.flatten_cons]
    exact h.append (h.replicate n)

/-- a list some times over -/
theorem op_rep {ds : List D} {x : Int} (h0 : 0 ≤ x) (hsz : ds.length * x.toNat ≤ 16777216) (hx63 : x < 2 ^ 62) : Op2 c μ ν (binaryOp .Mult) (.list ds) (.int x) (.list (List.replicate x.toNat ds).flatten) := fun s E v y F hx hy => by
  obtain ⟨l, vs, rfl, hl, hr⟩ := (LD.data ds).open F hx
  simp only [Rep] at hy
  obtain ⟨u, rfl⟩ := hy
  obtain ⟨⟨cls, d, data, sl⟩, ho, hcl, k, hd⟩ := id hl
  simp only at hcl hd
  subst hcl hd
  have e1 : vs.size = ds.length := by rw [← hr.length]; simp
  have hsz' : vs.size * x.toNat ≤ 2 ^ 24 := by rw [e1]; exact hsz
  refine wpAny_binaryOp_repeat_ref (T := "list") (U := "int") (by decide) ⟨_, ho, rfl⟩ (fun s' => typeIs_int s' x u) noFill_list_mul PySem.F.fills_int_mul PySem.F.slot_int_rmul repeat_list PySem.F.slot_int_index.lookup
    (call_meets PySem.F.slot_int_rmul (typeIs_int s x u) PySem.F.entry_int_rmul (PySem.F.args_int_rmul_2 _ _) (lm_int_rmul_list_any x u l vs k d sl)
      ⟨ho, rfl, ⟨_, ho, rfl⟩, call_meets PySem.F.slot_list_mul ⟨_, ho, rfl⟩ PySem.F.entry_list_mul (PySem.F.args_list_mul_2 _ _)
        (lm_list_mul_any l vs k d sl x u (by simp [Builtin.List.listFitsIndex]; omega) (by omega) (by simp [Builtin.List.listTooLong, sizeLine]; omega))
        ⟨ho, ?_⟩⟩)
  refine ⟨kp_push, ?_⟩
  rw [listMul_foldl_if]
  exact rep_newList F (by simpa using hr.replicate x.toNat)

theorem Ev.ifexp {test body orelse : Expr} {pos : Pos} {b : Bool} {d : D} (ht : EvB c μ ν test b) (h1 : b = true → Ev c μ ν body d) (h2 : b = false → Ev c μ ν orelse d) : Ev c μ ν (.IfExp test body orelse pos) d := by
  intro s E F
  refine wpAny_IfExp (wpAny_mono (ht s E F) (fun t s₁ h => ?_) fun _ _ e => e)
  obtain ⟨k, rfl⟩ := h
  cases t with
  | true => exact wpAny_mono (h1 rfl s₁ E (F.keeps k)) (fun v s₂ h₂ => Post.trans k h₂) fun _ _ e => e
  | false => exact wpAny_mono (h2 rfl s₁ E (F.keeps k)) (fun v s₂ h₂ => Post.trans k h₂) fun _ _ e => e

theorem EvB.not {x : Expr} {pos : Pos} {b : Bool} (h : EvB c μ ν x b) : EvB c μ ν (.UnaryOp .Not x pos) (!b) := fun s E F =>
  wpAny_isTrue_Not (wpAny_mono (h s E F) (fun t s₁ h₁ => ⟨h₁.1, by rw [h₁.2]⟩) fun _ _ e => e)

/-- all of these, or any -/
def EvAnd (c : Cx) (μ : Vars) (ν : Muts) (es : List Expr) (b : Bool) : Prop := ∀ s E, c.F μ ν s → wpAny c.M c.A (allTrue .And es c.env) (fun t s' => Kp s s' ∧ t = b) E s
def EvOr (c : Cx) (μ : Vars) (ν : Muts) (es : List Expr) (b : Bool) : Prop := ∀ s E, c.F μ ν s → wpAny c.M c.A (allTrue .Or es c.env) (fun t s' => Kp s s' ∧ t = b) E s
theorem EvAnd.nil : EvAnd c μ ν [] true := fun s _ _ => wpAny_allTrue_And_nil ⟨Kp.refl s, rfl⟩
theorem EvOr.nil : EvOr c μ ν [] false := fun s _ _ => wpAny_allTrue_Or_nil ⟨Kp.refl s, rfl⟩
theorem EvAnd.cons {x : Expr} {es : List Expr} {b b' : Bool} (h : EvB c μ ν x b) (hs : b = true → EvAnd c μ ν es b') : EvAnd c μ ν (x :: es) (b && b') := fun s E F => by
  refine wpAny_allTrue_And_cons (wpAny_mono (h s E F) (fun t s₁ h₁ => ?_) fun _ _ e => e)
  obtain ⟨k, rfl⟩ := h₁
  cases t with
  | true => exact wpAny_mono (hs rfl s₁ E (F.keeps k)) (fun v s₂ h₂ => ⟨k.trans h₂.1, by rw [h₂.2]; rfl⟩) fun _ _ e => e
  | false => exact ⟨k, rfl⟩
theorem EvOr.cons {x : Expr} {es : List Expr} {b b' : Bool} (h : EvB c μ ν x b) (hs : b = false → EvOr c μ ν es b') : EvOr c μ ν (x :: es) (b || b') := fun s E F => by
  refine wpAny_allTrue_Or_cons (wpAny_mono (h s E F) (fun t s₁ h₁ => ?_) fun _ _ e => e)
  obtain ⟨k, rfl⟩ := h₁
  cases t with
  | true => exact ⟨k, rfl⟩
  | false => exact wpAny_mono (hs rfl s₁ E (F.keeps k)) (fun v s₂ h₂ => ⟨k.trans h₂.1, by rw [h₂.2]; rfl⟩) fun _ _ e => e
theorem EvB.and {es : List Expr} {pos : Pos} {b : Bool} (h : EvAnd c μ ν es b) : EvB c μ ν (.BoolOp .And es pos) b := fun s E F => wpAny_isTrue_BoolOp (h s E F)
theorem EvB.or {es : List Expr} {pos : Pos} {b : Bool} (h : EvOr c μ ν es b) : EvB c μ ν (.BoolOp .Or es pos) b := fun s E F => wpAny_isTrue_BoolOp (h s E F)

/-- the truth of a value -/
theorem EvB.bool {e : Expr} {b : Bool} (h : Ev c μ ν e (.bool b)) (he : isTrue e c.env (eval e c.env) = (do let v ← eval e c.env; standAt e.pos; holding [v] (truthy v)) := by rfl) : EvB c μ ν e b := fun s E F => by
  refine wpAny_isTrue_value (wpAny_mono (h s E F) (fun v s₁ h₁ => ?_) fun _ _ e => e) he
  obtain ⟨k, hv⟩ := h₁
  simp only [Rep] at hv
  subst hv
  exact wpAny_truthy_bool ⟨k, rfl⟩
theorem EvB.list {e : Expr} {d : D} {ds : List D} (h : Ev c μ ν e d) (hd : LD ν d ds) (hsz : ds.length < 2 ^ 62) (he : isTrue e c.env (eval e c.env) = (do let v ← eval e c.env; standAt e.pos; holding [v] (truthy v)) := by rfl) :
    EvB c μ ν e (!ds.isEmpty) := fun s E F => by
  refine wpAny_isTrue_value (wpAny_mono (h s E F) (fun v s₁ h₁ => ?_) fun _ _ e => e) he
  obtain ⟨k, hv⟩ := h₁
  obtain ⟨l, vs, rfl, hl, hr⟩ := hd.open (F.keeps k) hv
  have e1 : vs.size = ds.length := by rw [← hr.length]; simp
  refine wpAny_truthy_list hl (by rw [e1]; omega) ⟨k.trans (Kp.tok _ _), ?_⟩
  congr 1
  have e2 : vs.isEmpty = (vs.size == 0) := rfl
  rw [e2, e1]
  cases ds <;> simp
theorem EvB.bytes {e : Expr} {b : Array UInt8} (h : Ev c μ ν e (.bytes b)) (hsz : b.size ≤ 1099511627776) (he : isTrue e c.env (eval e c.env) = (do let v ← eval e c.env; standAt e.pos; holding [v] (truthy v)) := by rfl) :
    EvB c μ ν e ((b.size : Int) != 0) := fun s E F => by
  refine wpAny_isTrue_value (wpAny_mono (h s E F) (fun v s₁ h₁ => ?_) fun _ _ e => e) he
  obtain ⟨k, hv⟩ := h₁
  simp only [Rep] at hv
  obtain ⟨t, rfl⟩ := hv
  exact PySem.W.truthy_bytes hsz ⟨k.trans (Kp.tok _ _), rfl⟩

/-- a conjunction as a value -/
def EvV (c : Cx) (μ : Vars) (ν : Muts) (pos : Pos) (es : List Expr) (b : Bool) : Prop := ∀ s E, c.F μ ν s → wpAny c.M c.A (boolOp pos .And (evalEach es c.env)) (Post c ν s (.bool b)) E s
theorem EvV.one {pos : Pos} {e : Expr} {b : Bool} (h : Ev c μ ν e (.bool b)) : EvV c μ ν pos [e] b := fun s E F => h s E F
theorem EvV.cons {pos : Pos} {e e' : Expr} {es : List Expr} {b b' : Bool} (h : Ev c μ ν e (.bool b)) (hs : b = true → EvV c μ ν pos (e' :: es) b') : EvV c μ ν pos (e :: e' :: es) (b && b') := fun s E F => by
  show wpAny c.M c.A (do
    let v ← eval e c.env
    standAt pos
    let t ← holding [v] (truthy v)
    match BoolOp.And, t with
    | .And, false | .Or, true => pure v
    | _, _ => boolOp pos .And (evalEach (e' :: es) c.env)) _ E s
  refine wpAny_bind (wpAny_mono (h s E F) (fun v s₁ h₁ => ?_) fun _ _ e => e)
  obtain ⟨k, hv⟩ := h₁
  simp only [Rep] at hv
  subst hv
  refine wpAny_bind (wpAny_standAt (wpAny_bind (wpAny_holding (wpAny_truthy_bool ?_))))
  cases b with
  | true => exact wpAny_mono (hs rfl s₁ E (F.keeps k)) (fun v s₂ h₂ => Post.trans k (by simpa using h₂)) fun _ _ e => e
  | false => exact wpAny_pure ⟨k, rfl⟩
theorem Ev.and {es : List Expr} {pos : Pos} {b : Bool} (h : EvV c μ ν pos es b) : Ev c μ ν (.BoolOp .And es pos) (.bool b) := fun s E F => h s E F

theorem sorted_unique : ∀ {a b : List Int}, a.Perm b → a.Pairwise (· ≤ ·) → b.Pairwise (· ≤ ·) → a = b
  | [], b, h, _, _ => (List.nil_perm.mp h).symm
  | x :: a, [], h, _, _ => absurd h.symm (by simp)
  | x :: a, y :: b, h, ha, hb => by
    have hx : x ∈ y :: b := h.mem_iff.mp List.mem_cons_self
    have hy : y ∈ x :: a := h.mem_iff.mpr List.mem_cons_self
    have h1 : y ≤ x := by
      rcases List.mem_cons.mp hx with e | e
      · omega
      · exact (List.pairwise_cons.mp hb).1 x e
    have h2 : x ≤ y := by
      rcases List.mem_cons.mp hy with e | e
      · omega
      · exact (List.pairwise_cons.mp ha).1 y e
    have e : x = y := by omega
    subst e
    rw [sorted_unique (List.perm_cons x |>.mp h) (List.pairwise_cons.mp ha).2 (List.pairwise_cons.mp hb).2]

theorem rep_at {s : Shared} (F : c.F μ ν s) {h' : Heap} {a : Addr} {ds : List D} {vs : Array Value} {n : Nat} (hk : ∀ b o, s.heap.get? b = some o → h'.get? b = some o) (ha : s.heap.objs.size ≤ a)
    (e : h'.get? a = some { cls := .type "list", data := .seq vs n }) (hr : Reps (mask c.H ν s.heap) ds vs.toList) : Rep (mask c.H ν h') (.list ds) (.ref a) := by
  obtain ⟨_, _, f3, _, f5⟩ := F.fresh ha
  simp only [Rep]
  exact ⟨a, vs, rfl, ⟨_, mask_some.mpr ⟨f5, f3, e⟩, rfl, rfl, n, rfl⟩, Reps.mono (mask_le fun b o _ _ q => hk b o q) _ _ hr⟩

/-- sorted -/
theorem call_sorted {ns ms : List Int} {d : D} (hd : LD ν d (ns.map D.int)) (h64 : ns.length < 64) (hp : ms.Perm ns) (hs : ms.Pairwise (· ≤ ·)) : CallIs c μ ν (.builtin "sorted") [d] (li ms) := fun s E vs F hr => by
  obtain ⟨v, rfl, hv⟩ := hr.one
  obtain ⟨l, us, rfl, hl, hu⟩ := hd.open F hv
  refine sorted_ints (vs := us.toList) (by simpa using hl) hu.ints (by rw [hu.length]; simpa using h64) fun out ns' a1 a2 a3 => ?_
  obtain ⟨e, he⟩ := sortedAll_at s.heap us.toList out
  have : ns' = ms := sorted_unique (a2.trans hp.symm) a3 hs
  subst this
  exact ⟨⟨_, s.toks, rfl, fun _ _ => sortedAll_old⟩, rep_at F (fun _ _ => sortedAll_old) (Nat.le_succ _) he (Reps.ofInts a1)⟩

/-- list(range(n)) -/
theorem Ev.listRange {e : Expr} {lp rp p1 p2 : Pos} {n : Int} (hl : Ev c μ ν (.Name "list" lp) (.val (.type "list"))) (hf : Ev c μ ν (.Name "range" rp) (.val (.type "range"))) (h : Ev c μ ν e (.int n)) (hh : c.A.handled = none)
    (hn : n ≤ 2 ^ 24) (hlo : -(2 ^ 62) ≤ n) (he : starEach [e] c.env = [(false, eval e c.env)] := by rfl) (he' : starEach [Expr.Call (.Name "range" rp) [e] [] p1] c.env = [(false, eval (Expr.Call (.Name "range" rp) [e] [] p1) c.env)] := by rfl) :
    Ev c μ ν (.Call (.Name "list" lp) [.Call (.Name "range" rp) [e] [] p1] [] p2) (.list (firstInts n.toNat)) := by
  intro s E F
  refine wpAny_Call_NameR (wpAny_mono (hl s E F) (fun f s₁ h₁ => ?_) fun _ _ e => e)
  have hfe := h₁.2
  simp only [Rep] at hfe
  subst hfe
  rw [he']
  refine PyProof.Rows.callWith_type (show (false || _) = false from rfl) (Calls.evalArgs_plain (Calls.spliced_cons ?_))
  refine wpAny_Call_NameR (wpAny_mono (hf s₁ E (F.keeps h₁.1)) (fun f s₂ h₂ => ?_) fun _ _ e => e)
  have hfe := h₂.2
  simp only [Rep] at hfe
  subst hfe
  have ha := (EvL.cons (pos := p1) h EvL.nil he) s₂ E (F.keeps (h₁.1.trans h₂.1))
  rw [he] at ha ⊢
  refine PyProof.Rows.callWith_type (show (false || _) = false from rfl) (Calls.evalArgs_plain (wpAny_mono ha (fun vs s₃ h₃ => ?_) fun _ _ e => e))
  obtain ⟨v, rfl, hv⟩ := h₃.2.one
  simp only [Rep] at hv
  obtain ⟨t, rfl⟩ := hv
  refine call_range_1 ?_
  refine Calls.spliced_nil ?_
  have k3 := (h₁.1.trans h₂.1).trans h₃.1
  generalize hI : ({ s₃ with heap := s₃.heap.push { cls := Value.type "range", data := Data.fields #[Value.int 0 s₃.toks, Value.int n t, Value.int 1 (s₃.toks + 1)] }, toks := s₃.toks + 1 + 1 } : Shared) = s₄
  have k4 : Kp s₃ s₄ := by subst hI; exact ⟨_, _, rfl, fun _ _ e => Heap.get?_push_of_some _ e⟩
  have hrng : IsRange s₄.heap s₃.heap.objs.size 0 n 1 s₃.toks t (s₃.toks + 1) := by subst hI; exact IsRange.new ..
  have hsz : Builtin.Range.rangeSize 0 n 1 = (n.toNat : Int) := by rw [rangeSize_one]; split <;> omega
  refine call_list_range hh hrng (small_one (by decide) (by decide) hlo (by omega)) hsz (by omega) fun h' tk acc' c' hk hacc hit => ?_
  have F4 := F.keeps (k3.trans k4)
  refine ⟨(k3.trans k4).trans ⟨h', tk, rfl, hk⟩, rep_at F4 hk (Nat.le_refl _) hacc (Reps.of_get ?_ fun i d v hd hv => ?_)⟩
  · rw [Array.length_toList, hit.1]; simp [firstInts]
  · have hv' : acc'[i]? = some v := by simpa using hv
    obtain ⟨t', rfl⟩ := hit.2 i v hv'
    unfold firstInts at hd
    rw [List.getElem?_map] at hd
    cases q : (List.range n.toNat)[i]? with
    | none => rw [q] at hd; simp at hd
    | some j =>
      rw [q] at hd
      simp only [Option.map_some, Option.some.injEq] at hd
      have hj : j = i := by
        obtain ⟨hlt, e⟩ := List.getElem?_eq_some_iff.mp q
        simpa using e.symm
      subst hd; subst hj
      simp only [Rep]
      exact ⟨t', by simp⟩
end Mine
end
section
open PySem PySem.W PyProof.Rows
set_option autoImplicit false
set_option maxRecDepth 100000
namespace Mine
variable {c : Cx} {μ : Vars} {ν : Muts}

/-- what an inner frame did: all but X stays, the known lists are as ν' tells -/
structure Eff (hL : Heap) (H X : Addr → Prop) (ν ν' : Muts) (s s' : Shared) : Prop where
  same : ∃ h tk, s' = { s with heap := h, toks := tk }
  keep : ∀ b o, ¬ X b → s.heap.get? b = some o → s'.heap.get? b = some o
  live : ∀ b o, s.heap.get? b = some o → (s'.heap.get? b).isSome = true
  dom : ∀ b, (ν b).isSome = true → (ν' b).isSome = true
  new : ∀ b, (ν' b).isSome = true → (ν b).isSome = true ∨ s.heap.get? b = none
  muts : ∀ a l, ν' a = some l → hL.get? a = none ∧ ∃ vs, s'.heap.PlainList a vs ∧ Reps (mask H ν' s'.heap) l vs.toList

theorem Eff.of {c' : Cx} {μ' : Vars} {ν' : Muts} {s s' : Shared} (F : FD c' μ' ν' s') (h0 : c'.s₀ = s) (hN : ∀ b, c'.N b ↔ (ν b).isSome = true) : Eff c'.hL c'.H c'.X ν ν' s s' where
  same := h0 ▸ F.same
  keep := fun b o hb e => F.keep b o hb (by rw [h0]; exact e)
  live := fun b o e => F.live b o (by rw [h0]; exact e)
  dom := fun b hb => F.dom b ((hN b).mpr hb)
  new := fun b hb => (F.newM b hb).imp (hN b).mp (by rw [h0]; exact id)
  muts := F.muts

/-- what is changed is ours -/
def MayX (c : Cx) (ν : Muts) (s : Shared) (X : Addr → Prop) : Prop :=
  ∀ b, X b → ((ν b).isSome = true ∧ (c.X b ∨ c.s₀.heap.get? b = none)) ∨ (b ∈ tabs ∧ c.X b ∧ c.g b = none ∧ ∃ o, s.heap.get? b = some o ∧ Obj.isFields o = true)

theorem FD.back {s s' : Shared} {X : Addr → Prop} {ν' : Muts} (F : c.F μ ν s) (e : Eff c.hL c.H X ν ν' s s') (hX : MayX c ν s X) : c.F μ ν' s' := by
  have noSeq : ∀ b o, s.heap.get? b = some o → Obj.isSeq o = true → ν b = none → ¬ X b := fun b o ho hs hν hx => by
    rcases hX b hx with ⟨q, _⟩ | ⟨_, _, _, o', ho', hf⟩
    · rw [hν] at q; cases q
    · rw [ho] at ho'; cases ho'; exact seq_not_fields hs hf
  have mutSeq : ∀ b, (ν b).isSome = true → ∃ o, s.heap.get? b = some o ∧ Obj.isSeq o = true := fun b hb => by
    obtain ⟨l, hl⟩ := Option.isSome_iff_exists.mp hb
    obtain ⟨_, vs, hp, _⟩ := F.muts b l hl
    exact plain_seq hp
  have le : SeqLe (mask c.H ν s.heap) (mask c.H ν' s'.heap) := by
    intro b o hb hs
    rw [mask_some] at hb ⊢
    refine ⟨hb.1, ?_, e.keep b o (noSeq b o hb.2.2 hs hb.2.1) hb.2.2⟩
    cases q : ν' b with
    | none => rfl
    | some l =>
      rcases e.new b (by rw [q]; rfl) with r | r
      · rw [hb.2.1] at r; cases r
      · rw [hb.2.2] at r; cases r
  exact {
    same := by
      obtain ⟨h, tk, rfl⟩ := F.same
      obtain ⟨h', tk', rfl⟩ := e.same
      exact ⟨h', tk', rfl⟩
    keep := fun b o hb q => e.keep b o (fun hx => by
      rcases hX b hx with ⟨_, r | r⟩ | ⟨_, r, _⟩
      · exact hb r
      · rw [q] at r; cases r
      · exact hb r) (F.keep b o hb q)
    live := fun b o q => by
      obtain ⟨o', q'⟩ := Option.isSome_iff_exists.mp (F.live b o q)
      exact e.live b o' q'
    lib := ⟨fun b o hb q => e.keep b o (fun hx => by
        rcases hX b hx with ⟨r, _⟩ | ⟨r, _⟩
        · obtain ⟨l, hl⟩ := Option.isSome_iff_exists.mp r
          rw [(F.muts b l hl).1] at q; cases q
        · exact hb r) (F.lib.get b o hb q), fun t ht => by
        obtain ⟨o', q'⟩ := Option.isSome_iff_exists.mp (F.lib.tab t ht)
        exact e.live t o' q'⟩
    fn := F.fn
    hidL := F.hidL
    mutH := fun b hb q => by
      rcases e.new b hb with r | r
      · exact F.mutH b r q
      · have := F.hid b q; rw [r] at this; cases this
    hid := fun a ha => by
      obtain ⟨o', q'⟩ := Option.isSome_iff_exists.mp (F.hid a ha)
      exact e.live a o' q'
    froz := fun a o q => ⟨e.keep a o (fun hx => by
        rcases hX a hx with ⟨r, _⟩ | ⟨_, _, r, _⟩
        · obtain ⟨l, hl⟩ := Option.isSome_iff_exists.mp r
          rw [F.frozM a l hl] at q; cases q
        · rw [r] at q; cases q) (F.froz a o q).1, (F.froz a o q).2⟩
    frozM := fun a l q => by
      rcases e.new a (by rw [q]; rfl) with r | r
      · obtain ⟨l', hl⟩ := Option.isSome_iff_exists.mp r
        exact F.frozM a l' hl
      · exact F.g_none r
    dom := fun a ha => e.dom a (F.dom a ha)
    newM := fun a ha => by
      rcases e.new a ha with r | r
      · exact F.newM a r
      · right
        cases q : c.s₀.heap.get? a with
        | none => rfl
        | some o => have := F.live a o q; rw [r] at this; cases this
    freshL := F.freshL
    freshC := F.freshC
    apart := F.apart
    vars := by
      obtain ⟨m, cm, hn, hc, hv⟩ := F.vars
      refine ⟨m, cm, hn.at' fun o q => e.keep _ o (fun hx => ?_) q, fun n a q => ?_, fun x d q => ?_⟩
      · rcases hX _ hx with ⟨r, _⟩ | ⟨_, _, _, o', r, hf⟩
        · obtain ⟨o', r1, r2⟩ := mutSeq _ r
          exact ns_ne_seq hn r1 r2 rfl
        · exact ns_ne_fields hn r hf rfl
      · obtain ⟨o, ho, hd⟩ := hc n a q
        refine ⟨o, e.keep a o (fun hx => ?_) ho, hd⟩
        rcases hX _ hx with ⟨r, _⟩ | ⟨_, _, _, o', r, hf⟩
        · obtain ⟨o', r1, r2⟩ := mutSeq _ r
          exact cell_ne_seq (hc n a q) r1 r2 rfl
        · exact cell_ne_fields (hc n a q) r hf rfl
      · obtain ⟨v, hr, hw⟩ := hv x d q
        exact ⟨v, Rep.mono le _ _ hr, hw⟩
    muts := e.muts }

/-- fewer lists are known; those of the start stay known -/
theorem mask_less {H : Addr → Prop} {ν ν' : Muts} {h : Heap} (hle : ∀ a l, ν' a = some l → ν a = some l) : SeqLe (mask H ν h) (mask H ν' h) := by
  intro b o e _
  rw [mask_some] at e ⊢
  refine ⟨e.1, ?_, e.2.2⟩
  cases q : ν' b with
  | none => rfl
  | some l => rw [hle b l q] at e; cases e.2.1
theorem FD.forget {s : Shared} {ν' : Muts} (F : c.F μ ν s) (hle : ∀ a l, ν' a = some l → ν a = some l) (hd : ∀ a, c.N a → (ν' a).isSome = true) : c.F μ ν' s where
  same := F.same
  keep := F.keep
  live := F.live
  lib := F.lib
  fn := F.fn
  hid := F.hid
  hidL := F.hidL
  mutH := fun b hb => F.mutH b (by
    obtain ⟨l, q⟩ := Option.isSome_iff_exists.mp hb
    rw [hle b l q]; rfl)
  froz := F.froz
  frozM := fun a l e => F.frozM a l (hle a l e)
  dom := hd
  newM := fun a e => by
    obtain ⟨l, q⟩ := Option.isSome_iff_exists.mp e
    exact F.newM a (by rw [hle a l q]; rfl)
  freshL := F.freshL
  freshC := F.freshC
  apart := F.apart
  vars := by
    obtain ⟨m, cm, hn, hc, hv⟩ := F.vars
    exact ⟨m, cm, hn, hc, fun x d e => by obtain ⟨v, hr, hw⟩ := hv x d e; exact ⟨v, Rep.mono (mask_less hle) _ _ hr, hw⟩⟩
  muts := fun a l e => by
    obtain ⟨h1, vs, h2, h3⟩ := F.muts a l (hle a l e)
    exact ⟨h1, vs, h2, Reps.mono (mask_less hle) _ _ h3⟩

/-- a known list, forgotten, is data -/
theorem FD.asData {s : Shared} {ν' : Muts} {a : Addr} {l : List D} (F : c.F μ ν s) (hle : ∀ a l, ν' a = some l → ν a = some l) (h : ν a = some l) (h' : ν' a = none) (hH : ¬ c.H a) : Rep (mask c.H ν' s.heap) (.list l) (.ref a) := by
  obtain ⟨_, vs, ⟨n, hp⟩, hr⟩ := F.muts a l h
  simp only [Rep]
  exact ⟨a, vs, rfl, ⟨_, mask_some.mpr ⟨hH, h', hp⟩, rfl, rfl, n, rfl⟩, Reps.mono (mask_less hle) _ _ hr⟩

/-- an expression that may change the known lists -/
abbrev PostM (c : Cx) (μ : Vars) (Q : Muts → D → Prop) : Value → Shared → Prop := fun v s' => ∃ ν' d, Q ν' d ∧ c.F μ ν' s' ∧ Rep (mask c.H ν' s'.heap) d v
def EvM (c : Cx) (μ : Vars) (ν : Muts) (e : Expr) (Q : Muts → D → Prop) : Prop := ∀ s E, c.F μ ν s → wpAny c.M c.A (eval e c.env) (PostM c μ Q) E s
def CallM (c : Cx) (μ : Vars) (ν : Muts) (f : Value) (ds : List D) (Q : Muts → D → Prop) : Prop :=
  ∀ s E vs, c.F μ ν s → Reps (mask c.H ν s.heap) ds vs → wpAny c.M c.A (call f vs) (PostM c μ Q) E s

theorem EvM.ofEv {e : Expr} {d : D} {Q : Muts → D → Prop} (h : Ev c μ ν e d) (q : Q ν d) : EvM c μ ν e Q := fun s E F =>
  wpAny_mono (h s E F) (fun _ _ h₁ => ⟨ν, d, q, F.keeps h₁.1, h₁.2⟩) fun _ _ e => e
theorem CallM.ofIs {f : Value} {ds : List D} {d : D} {Q : Muts → D → Prop} (h : CallIs c μ ν f ds d) (q : Q ν d) : CallM c μ ν f ds Q := fun s E vs F r =>
  wpAny_mono (h s E vs F r) (fun _ _ h₁ => ⟨ν, d, q, F.keeps h₁.1, h₁.2⟩) fun _ _ e => e

variable {P : Flow → Shared → Prop} {E : Value → Shared → Prop} {rest : List Stmt}
theorem Ex.assignM {x : Str} {p pos : Pos} {e : Expr} {Q : Muts → D → Prop} (he : EvM c μ ν e Q) (hk : Own c x) (hr : ∀ ν' d, Q ν' d → Ex c (upd μ x d) ν' rest P E)
    (hs : swapsWith e (some (.Name x p)) pos.line c.env = pure false := by rfl) : Ex c μ ν (.Assign [.Name x p] e pos :: rest) P E := by
  refine Ex.cons fun s F => wpAny_Assign_Name (wpAny_mono (he s E F) (fun v s₁ h₁ => ?_) fun _ _ e => e) hs
  obtain ⟨ν', d, q, F', r⟩ := h₁
  exact FD.store F' hk r fun s' F' _ => hr ν' d q s' F'
theorem EvM.callF {x : Str} {p pos : Pos} {a : Addr} {o : Obj} {fd : FuncData} {e : Expr} {es : List Expr} {ds : List D} {Q : Muts → D → Prop} (hf : Ev c μ ν (.Name x p) (.val (.ref a)))
    (ho : c.hL.get? a = some o) (hfd : o.data = .func fd) (hat : a ∉ tabs) (ha : EvL c μ ν pos (e :: es) ds)
    (hc : CallM c μ ν (.ref a) ds Q)
    (he : starEach (e :: es) c.env = (false, eval e c.env) :: starEach es c.env := by rfl) :
    EvM c μ ν (.Call (.Name x p) (e :: es) [] pos) Q := by
  intro s E F
  refine wpAny_Call_NameR (wpAny_mono (hf s E F) (fun f s₁ h₁ => ?_) fun _ _ e => e)
  have hfe := h₁.2
  simp only [Rep] at hfe
  subst hfe
  have ha' := ha s₁ E (F.keeps h₁.1)
  rw [he] at ha' ⊢
  refine Calls.callWith_function (o := o) (fd := fd) (Calls.evalArgs_plain (wpAny_mono ha' (fun vs s₂ h₂ => ?_) fun _ _ e => e))
  have F2 := F.keeps (h₁.1.trans h₂.1)
  exact ⟨⟨F2.lib.get a o hat ho, hfd⟩, hc s₂ E vs F2 h₂.2⟩

/-- a call of a type upon one such expression -/
theorem EvM.callT {x : Str} {p pos : Pos} {T : String} {e : Expr} {Q Q' : Muts → D → Prop} (hf : Ev c μ ν (.Name x p) (.val (.type T))) (ha : EvM c μ ν e Q)
    (hc : ∀ ν' d, Q ν' d → CallM c μ ν' (.type T) [d] Q')
    (he : starEach [e] c.env = [(false, eval e c.env)] := by rfl) :
    EvM c μ ν (.Call (.Name x p) [e] [] pos) Q' := by
  intro s E F
  refine wpAny_Call_NameR (wpAny_mono (hf s E F) (fun f s₁ h₁ => ?_) fun _ _ e => e)
  have hfe := h₁.2
  simp only [Rep] at hfe
  subst hfe
  have ha' := ha s₁ E (F.keeps h₁.1)
  rw [he]
  refine PyProof.Rows.callWith_type (show (false || _) = false from rfl) (Calls.evalArgs_plain (Calls.spliced_cons (wpAny_mono ha' (fun v s₂ h₂ => ?_) fun _ _ e => e)))
  obtain ⟨ν', d, q, F', r⟩ := h₂
  exact Calls.spliced_nil (hc ν' d q s₂ E [v] F' (by simp only [Reps]; exact ⟨v, [], rfl, r, rfl⟩))

/-- the promise of a def that changes known lists -/
def Proc (prog : Program) (w : World) (hL : Heap) (f : Addr) (need : Nat) (X : Addr → Prop) (ν : Muts) (ds : List D) (Q : Muts → D → Prop) : Prop :=
  ∀ A s vs H, Room A need → Lib hL s.heap → (∀ b, H b → (s.heap.get? b).isSome = true) → (∀ b, H b → hL.get? b = none) →
    (∀ a l, ν a = some l → hL.get? a = none ∧ ∃ us, s.heap.PlainList a us ∧ Reps (mask H ν s.heap) l us.toList) → (∀ b, X b → (ν b).isSome = true) → (∀ b, (ν b).isSome = true → ¬ H b) → Reps (mask H ν s.heap) ds vs →
    codeAny (model prog w) A (.call (.ref f) ⟨vs, []⟩) (fun r s' => ∃ v ν' d, r = .ok (.ret v) ∧ Q ν' d ∧ Eff hL H X ν ν' s s' ∧ Rep (mask H ν' s'.heap) d v) s

theorem CallM.ofProc {f : Addr} {need : Nat} {X : Addr → Prop} {ds : List D} {Q : Muts → D → Prop} (r : Room c.A need) (h : Proc c.prog c.w c.hL f need X ν ds Q) (hX : ∀ b, X b → (ν b).isSome = true ∧ (c.X b ∨ c.s₀.heap.get? b = none)) :
    CallM c μ ν (.ref f) ds Q := by
  intro s E vs F hr
  refine wpAny_call (codeAny_mono (h c.A s vs c.H r F.lib F.hid F.hidL F.muts (fun b hb => (hX b hb).1) F.mutH hr) fun r s' hq => ?_)
  obtain ⟨v, ν', d, rfl, q, e, hv⟩ := hq
  exact ⟨ν', d, q, F.back e fun b hb => Or.inl (hX b hb), hv⟩

theorem proc_of {prog : Program} {w : World} {hL : Heap} {a : Addr} {fd : FuncData} {body : List Stmt} {ns : List Str} {ds : List D} {X : Addr → Prop} {Q : Muts → D → Prop} {need : Nat} (K : DefAt hL a fd body ns) (hlen : ns.length = ds.length)
    (hbind : ∀ vs : List Value, vs.length = ns.length → bindArgs fd ⟨vs, []⟩ = pure (ns.zip vs))
    (h : ∀ A s H, Room A need → (∀ b, X b → (ν b).isSome = true) → Ex ⟨prog, w, A.deeper (callEnvC fd s.heap.objs.size a), hL, s, X, H, noView, callEnvC fd s.heap.objs.size a, fun _ => true, fun b => (ν b).isSome = true⟩ (ofParams ns ds) ν body
      (fun f s' => ∃ v ν' d, f = .ret v ∧ Q ν' d ∧ Eff hL H X ν ν' s s' ∧ Rep (mask H ν' s'.heap) d v) (fun _ _ => False)) : Proc prog w hL a need X ν ds Q := by
  intro A s vs H r hlib hid hidL hmut hX hmH hr
  refine call_def (X := X) (H := H) (ν := ν) K (hbind vs (by rw [hr.length, hlen])) (by have := r.depth; omega) hlib hid hidL hmH hmut hr ?_
  intro s₁ F
  refine wpAny_mono (h A s H r hX s₁ F) (fun f s' hf => ?_) fun _ _ e => e.elim
  obtain ⟨v, ν', d, rfl, q, e, hv⟩ := hf
  exact ⟨v, ν', d, rfl, q, e, hv⟩
end Mine
end
section
open PySem PySem.W PyProof.Rows
set_option autoImplicit false
set_option maxRecDepth 100000
namespace Mine
variable {c : Cx} {μ : Vars} {ν : Muts}

/-- small lists of ints -/
def SmallL (ns : List Int) : Prop := ns.length ≤ 256 ∧ ∀ n ∈ ns, 0 ≤ n ∧ n < 256
theorem weight_small : ∀ ns : List Int, (∀ n ∈ ns, 0 ≤ n ∧ n < 256) → PyData.weightAll (ns.map PyData.int) ≤ 10 * ns.length
  | [], _ => by simp [PyData.weightAll]
  | n :: ns, h => by
    have ih := weight_small ns fun m hm => h m (List.mem_cons_of_mem _ hm)
    have hn := h n List.mem_cons_self
    have : PyData.weight (PyData.int n) ≤ 9 := by
      simp only [PyData.weight]
      split
      · omega
      · have : n.natAbs.log2 < 8 := (Nat.log2_lt (by simp_all)).mpr (by omega)
        omega
    simp only [List.map_cons, PyData.weightAll, List.length_cons]
    omega
theorem layable_small {ns : List Int} (h : SmallL ns) : PyData.layable0 (.list (ns.map PyData.int)) = true := by
  have h1 := weight_small ns h.2
  have h2 := depth_ints ns
  have h3 := h.1
  unfold PyData.layable0
  rw [Bool.and_eq_true, Bool.and_eq_true]
  refine ⟨⟨by simp only [PyData.canLay0, canLay_ints], ?_⟩, ?_⟩
  · refine decide_eq_true ?_; simp only [PyData.depth]; omega
  · refine decide_eq_true ?_; simp only [PyData.weight]; omega

theorem draw_walks {prog : Program} {w : World} {A : Around} {E : Value → Shared → Prop} {I : Addr} {fp wr : List Addr} {n : Nat} {Pv : Nat → Value → Prop} {St : Nat → Heap → Prop} (W : Walks prog w A I fp wr n Pv St) :
    ∀ (k i : Nat) (s : Shared) (Q : List Value → Shared → Prop), i + k ≤ n → St i s.heap →
      (∀ vals h' tk, vals.length = k → (∀ j v, vals[j]? = some v → Pv (i + j) v) → St (i + k) h' → (∀ b o, b ∉ wr → s.heap.get? b = some o → h'.get? b = some o) → Q vals { s with heap := h', toks := tk }) →
      wpAny (model prog w) A (draw (.ref I) k) Q E s
  | 0, i, s, Q, _, hst, h => wpAny_pure (by simpa using h [] s.heap s.toks rfl (fun j v e => by simp at e) (by simpa using hst) fun _ _ _ e => e)
  | k + 1, i, s, Q, hle, hst, h => by
    show wpAny _ _ (pyNext (.ref I) >>= _) Q E s
    refine wpAny_bind (W.item i s _ _ (by omega) hst fun v h₁ tk₁ hv hst₁ hk₁ => ?_)
    refine wpAny_bind (wpAny_holding (draw_walks W k (i + 1) _ _ (by omega) hst₁ fun vals h₂ tk₂ hl hp hst₂ hk₂ => wpAny_pure ?_))
    refine h (v :: vals) h₂ tk₂ (by simp [hl]) (fun j u e => ?_) (by rw [show i + (k + 1) = i + 1 + k by omega]; exact hst₂) fun b o hb e => hk₂ b o hb (hk₁ b o hb e)
    cases j with
    | zero => simp at e; subst e; exact hv
    | succ j => rw [show i + (j + 1) = i + 1 + j by omega]; exact hp j u (by simpa using e)

theorem unpackItems_list {prog : Program} {w : World} {A : Around} {E : Value → Shared → Prop} {s : Shared} {l : Addr} {items : Array Value} {Q : List Value → Shared → Prop} (hh : A.handled = none) (hl : s.heap.IsList l items)
    (hQ : ∀ h' tk, (∀ b o, s.heap.get? b = some o → h'.get? b = some o) → Q items.toList { s with heap := h', toks := tk }) : wpAny (model prog w) A (unpackItems (.ref l) items.size none) Q E s := by
  have hne : l ≠ s.heap.objs.size := by obtain ⟨o, ho, _⟩ := hl; exact Nat.ne_of_lt (Heap.lt_size ho)
  have W := Walks.list (prog := prog) (w := w) hh s.heap.objs.size l hne items
  unfold unpackItems
  refine wpAny_bind ?_
  unfold notIterableAtAll
  refine wpAny_bind (wpAny_specialOf hl.typeIs PySem.F.slot_list_iter.lookup ?_)
  refine wpAny_pure ?_
  simp only [Bool.false_eq_true, if_false]
  refine wpAny_bind (wpAny_holding (wpAny_pyIter_list hl ?_))
  have old : ∀ {b : Addr} {o : Obj}, s.heap.get? b = some o → b ∉ [s.heap.objs.size] := fun e hb => by
    have := Heap.lt_size e
    simp at hb
    exact Nat.lt_irrefl _ (hb ▸ this)
  refine wpAny_bind (wpAny_holding (draw_walks W items.size 0 _ _ (by omega) ⟨⟨_, Heap.get?_push_size _ rfl, rfl, rfl⟩, hl.push _⟩ fun vals h₁ tk₁ hlen hv hst hk₁ => ?_))
  have e : vals = items.toList := by
    refine List.ext_getElem? fun i => ?_
    cases q : vals[i]? with
    | none =>
      have := List.getElem?_eq_none_iff.mp q
      rw [hlen] at this
      symm; rw [List.getElem?_eq_none_iff]; simpa using this
    | some v => have := hv i v q; simp at this; simp [this]
  subst e
  rw [if_neg (by simp)]
  rw [Nat.zero_add] at hst
  refine wpAny_bind (wpAny_holding (W.done _ _ _ hst fun h₂ tk₂ hk₂ => ?_))
  simp only [Option.isSome_none, Bool.false_eq_true, if_false]
  exact wpAny_pure (hQ h₂ tk₂ fun b o e => hk₂ b o (old e) (hk₁ b o (old e) (Heap.get?_push_of_some _ e)))

/-- several names at once -/
def updL (μ : Vars) : List Str → List D → Vars
  | n :: ns, d :: ds => updL (upd μ n d) ns ds
  | _, _ => μ

theorem assign_names {E : Value → Shared → Prop} {Q : Unit → Shared → Prop} (f : Str → Value → Sem Unit) (hf : ∀ x v s Q, wpAny c.M c.A (storeName c.env x v) Q E s → wpAny c.M c.A (f x v) Q E s) :
    ∀ (names : List Str) (ds : List D) (vals : List Value) (μ : Vars) (s : Shared), names.length = ds.length → (∀ n ∈ names, Own c n) → c.F μ ν s → Reps (mask c.H ν s.heap) ds vals →
      (∀ s', c.F (updL μ names ds) ν s' → Q () s') → wpAny c.M c.A (assignInOrder (names.map f) vals) Q E s
  | [], [], vals, μ, s, _, _, F, hr, h => by
    simp only [Reps] at hr; subst hr
    exact wpAny_pure (h s F)
  | n :: names, d :: ds, vals, μ, s, hl, hk, F, hr, h => by
    simp only [Reps] at hr
    obtain ⟨v, r, rfl, hv, hr⟩ := hr
    show wpAny _ _ (do holding r (f n v); assignInOrder (names.map f) r) Q E s
    refine wpAny_bind (wpAny_holding (hf n v _ _ (FD.store F (hk n List.mem_cons_self) hv fun s' F' st => ?_)))
    refine assign_names f hf names ds r (upd μ n d) s' (by simpa using hl) (fun m hm => hk m (List.mem_cons_of_mem _ hm)) F' (Reps.mono (mask_le fun b o _ hs e => st.data b o e (Or.inl hs)) _ _ hr) h
  | [], _ :: _, _, _, _, hl, _, _, _, _ => by simp at hl
  | _ :: _, [], _, _, _, hl, _, _, _, _ => by simp at hl

variable {P : Flow → Shared → Prop} {E : Value → Shared → Prop} {rest : List Stmt}
/-- a, b, c = e, where e is a list -/
theorem Ex.unpackList {elts : List Expr} {names : List (Str × Pos)} {k : Nat} {tpos pos : Pos} {e : Expr} {d : D} {ds : List D} (he : Ev c μ ν e d) (hd : LD ν d ds) (hh : c.A.handled = none)
    (hl : names.length = ds.length) (hk : ∀ n ∈ names.map (·.1), Own c n) (hr : Ex c (updL μ (names.map (·.1)) ds) ν rest P E)
    (ha : assignEach elts c.env = names.map fun n => (false, PySem.assign (.Name n.1 n.2) c.env) := by rfl)
    (hs : swapsWithSole [.Tuple elts k tpos] e pos.line c.env = pure false := by rfl)
    (hw : swappedStores [.Tuple elts k tpos] e c.env = pure none := by rfl) : Ex c μ ν (.Assign [.Tuple elts k tpos] e pos :: rest) P E := by
  refine Ex.cons fun s F => Assign_Tuple (wpAny_mono (he s E F) (fun v s₁ h₁ => ?_) fun _ _ e => e) hs hw
  have F1 := F.keeps h₁.1
  obtain ⟨l, vs, rfl, hL, hv⟩ := hd.open F1 h₁.2
  have e1 : vs.size = names.length := by rw [hl, ← hv.length]; simp
  rw [PyProof.Rows.assign_Tuple]
  refine wpAny_bind (wpAny_standAt ?_)
  unfold unpack
  rw [ha]
  have hfi : (names.map fun n => (false, PySem.assign (.Name n.1 n.2) c.env)).findIdx? (·.1) = none := by
    simp [List.findIdx?_eq_none_iff]
  rw [hfi, List.length_map, ← e1]
  refine wpAny_bind (wpAny_holding (unpackItems_list hh hL fun h' tk hk' => ?_))
  have kp : Kp s₁ { s₁ with heap := h', toks := tk } := ⟨h', tk, rfl, hk'⟩
  rw [List.map_map]
  have e2 : (names.map ((fun x : Bool × (Value → Sem Unit) => x.2) ∘ fun n => (false, PySem.assign (.Name n.1 n.2) c.env))) = (names.map fun n => PySem.assign (.Name n.1 n.2) c.env) := rfl
  rw [e2]
  have gen : ∀ (names : List (Str × Pos)) (ds : List D) (vals : List Value) (μ : Vars) (s : Shared), names.length = ds.length → (∀ n ∈ names.map (·.1), Own c n) → c.F μ ν s → Reps (mask c.H ν s.heap) ds vals →
      (∀ s', c.F (updL μ (names.map (·.1)) ds) ν s' → thenP c rest P E .next s') → wpAny c.M c.A (assignInOrder (names.map fun n => PySem.assign (.Name n.1 n.2) c.env) vals) (fun _ => thenP c rest P E .next) E s := by
    intro names
    induction names with
    | nil =>
      intro ds vals μ s hl _ F hr h
      cases ds with
      | nil => simp only [Reps] at hr; subst hr; exact wpAny_pure (h s F)
      | cons _ _ => simp at hl
    | cons n names ih =>
      intro ds vals μ s hl hk F hr h
      cases ds with
      | nil => simp at hl
      | cons d ds =>
        simp only [Reps] at hr
        obtain ⟨v, r, rfl, hv, hr⟩ := hr
        show wpAny _ _ (do holding r (PySem.assign (.Name n.1 n.2) c.env v); assignInOrder (names.map fun n => PySem.assign (.Name n.1 n.2) c.env) r) _ E s
        refine wpAny_bind (wpAny_holding (wpAny_assign_Name (FD.store F (hk n.1 (by simp)) hv fun s' F' st => ?_)))
        exact ih ds r (upd μ n.1 d) s' (by simpa using hl) (fun m hm => hk m (by simp at hm ⊢; exact Or.inr hm)) F' (Reps.mono (mask_le fun b o _ hs e => st.data b o e (Or.inl hs)) _ _ hr) h
  exact gen names ds vs.toList μ _ hl hk (F1.keeps kp) (hv.keeps kp) fun s' F' => hr s' F'

/-- xs.index(k) -/
theorem Ev.index {o e : Expr} {apos pos : Pos} {d : D} {ns : List Int} {k : Int} (ho : Ev c μ ν o d) (hd : d = li ns ∨ ∃ a, d = .val (.ref a) ∧ ν a = some (ns.map D.int)) (he : Ev c μ ν e (.int k)) (hlay : SmallL ns) (hk : k ∈ ns)
    (hbase : attributeBase o "index" c.env (eval o c.env) = eval o c.env := by rfl) (hline : (apos.endLine == pos.line) = true := by rfl)
    (htrees : backTo pos (starEach [e] c.env) = [(false, eval e c.env)] := by rfl) : Ev c μ ν (.Call (.Attribute o "index" apos) [e] [] pos) (.int (ns.idxOf k : Nat)) := by
  intro s E F
  refine wpAny_Call_method1_late hbase hline htrees (wpAny_mono (ho s E F) (fun v s₁ h₁ => ?_) fun _ _ e => e)
  have F1 := F.keeps h₁.1
  have key : ∀ s', c.F μ ν s' → Rep (mask c.H ν s'.heap) d v → ∃ l vs, v = .ref l ∧ s'.heap.IsList l vs ∧ IntsAre vs.toList ns ∧ ∃ ob, s'.heap.get? l = some ob ∧ ob.dict = none := by
    intro s' F' r
    rcases hd with rfl | ⟨a, rfl, hν⟩
    · simp only [Rep] at r
      obtain ⟨a, vs, rfl, hs, hr⟩ := r
      obtain ⟨ob, q1, _, q2, _⟩ := id hs
      exact ⟨a, vs, rfl, hs.isList, hr.ints, ob, (mask_some.mp q1).2.2, q2⟩
    · simp only [Rep] at r
      obtain ⟨_, vs, hp, hr⟩ := F'.muts a _ hν
      obtain ⟨n, hp'⟩ := id hp
      exact ⟨a, vs, r, hp.isList, hr.ints, _, hp', rfl⟩
  obtain ⟨l, vs, rfl, hL, hI, ob, q1, q2⟩ := key s₁ F1 h₁.2
  refine ⟨"list", "list.index", PySem.F.plainAttrs_list, PySem.F.slot_list_index, PySem.F.type_list_index, hL.typeIs, fun a e => by cases e; exact ⟨ob, q1, q2⟩, ?_⟩
  refine Calls.callWith_builtin rfl (Calls.evalArgs_plain (Calls.spliced_cons (wpAny_mono (he s₁ E F1) (fun y s₂ h₂ => Calls.spliced_nil ?_) fun _ _ e => e)))
  have hy := h₂.2
  simp only [Rep] at hy
  obtain ⟨t, rfl⟩ := hy
  obtain ⟨l', vs', e', hL', hI', _⟩ := key s₂ (F1.keeps h₂.1) (h₁.2.keeps h₂.1)
  cases e'
  exact index_list_ints (vs := vs'.toList) (by simpa using hL') hI' (layable_small hlay) hk ⟨(h₁.1.trans h₂.1).trans (Kp.tok _ _), ⟨_, rfl⟩⟩

/-- names of the module -/
theorem HL.glob {P : Params} {hL : Heap} (h : HL P hL) {env : Env} {x : Str} {v : Value} (hN : nsOkIn (Mine.hd.heap_39 P) mainGlobals = true) (hv : nsIn (Mine.hd.heap_39 P) mainGlobals x = some (some v)) (hG : env.globals = mainGlobals) : GName hL env x v := by
  obtain ⟨h0, k, _, _, l⟩ := h.base
  have ns := Heap.Ns.of_isNs (isNs_of_in k hN)
  exact ⟨_, hG ▸ ns.at' fun o q => l _ o (by decide) q, Or.inl (mg_of k ns hv)⟩
theorem HL.built {P : Params} {hL : Heap} (h : HL P hL) {env : Env} {x : Str} {v : Value} (hN : nsOkIn (Mine.hd.heap_39 P) mainGlobals = true) (hv : nsIn (Mine.hd.heap_39 P) mainGlobals x = some none) (hb : bootBuiltins x = some v) (hx : x ≠ "__name__")
    (hG : env.globals = mainGlobals) (hB : env.builtins = builtinsNs) : GName hL env x v := by
  obtain ⟨h0, k, ⟨mb, hm, hall⟩, _, l⟩ := h.base
  have ns := Heap.Ns.of_isNs (isNs_of_in k hN)
  have ns' : hL.Ns mainGlobals _ := ns.at' fun o q => l _ o (by decide) q
  refine ⟨_, hG ▸ ns', Or.inr ⟨nsMap_none_of_in k hN hv, mb, hB ▸ hm.at' fun o q => l _ o (by decide) q, (hall x hx).trans hb⟩⟩
end Mine
end
section
open PySem PySem.W PyProof.Rows
set_option autoImplicit false
set_option maxRecDepth 100000
namespace Mine
section
variable {c : Cx} {μ : Vars} {ν : Muts}

abbrev nt (n : Nat) : D := .int (n : Int)

theorem Ev.nat (n : Nat) {k : Nat} {pos : Pos} : Ev c μ ν (.Constant (.int (n : Int)) k pos) (nt n) := Ev.int
theorem op_addN {a b : Nat} : Op2 c μ ν (binaryOp .Add) (nt a) (nt b) (nt (a + b)) := by
  have h := op_add (c := c) (μ := μ) (ν := ν) (a := (a : Int)) (b := (b : Int))
  rwa [← Int.natCast_add] at h
theorem op_mulN {a b : Nat} (h : a < 2 ^ 60) : Op2 c μ ν (binaryOp .Mult) (nt a) (nt b) (nt (a * b)) := by
  have hm : IntMulOk (a : Int) (b : Int) := .of_left (by
    unfold Builtin.Int.intBits
    split
    · omega
    · rename_i hn
      have hn' : a ≠ 0 := by intro e; subst e; simp at hn
      have : (a : Int).natAbs.log2 < 60 := (Nat.log2_lt (by simpa using hn')).mpr (by simpa using h)
      omega)
  have h := op_mul (c := c) (μ := μ) (ν := ν) hm
  rwa [← Int.natCast_mul] at h
theorem op_modN {a b : Nat} (hb : 0 < b) : Op2 c μ ν (binaryOp .Mod) (nt a) (nt b) (nt (a % b)) := by
  have h := op_mod (c := c) (μ := μ) (ν := ν) (a := (a : Int)) (b := (b : Int)) (by omega)
  rwa [← Int.natCast_emod] at h
theorem op_divN {a b : Nat} (hb : 0 < b) (hs : b < 1073741824) : Op2 c μ ν (binaryOp .FloorDiv) (nt a) (nt b) (nt (a / b)) := by
  have h := op_div (c := c) (μ := μ) (ν := ν) (a := (a : Int)) (b := (b : Int)) (by omega) (PyProof.noPylong_small (by simpa using hs))
  rwa [← Int.natCast_ediv] at h
theorem op_powN {a b : Nat} (ha : a < 16) (hb : b ≤ 64) : Op2 c μ ν (binaryOp .Pow) (nt a) (nt b) (nt (a ^ b)) := by
  have h1 : Builtin.Int.intBits (a : Int) ≤ 4 := by
    unfold Builtin.Int.intBits
    split
    · omega
    · rename_i hn
      have hn' : a ≠ 0 := by intro e; subst e; simp at hn
      have : (a : Int).natAbs.log2 < 4 := (Nat.log2_lt (by simpa using hn')).mpr (by simpa using ha)
      omega
  have h := op_pow (c := c) (μ := μ) (ν := ν) (a := (a : Int)) (b := (b : Int)) (by omega) (by
    have h2 : (Builtin.Int.intBits (a : Int) : Int) * b ≤ 4 * 64 := Int.mul_le_mul (by omega) (by omega) (by omega) (by omega)
    omega)
  rwa [Int.toNat_natCast, ← Int.natCast_pow] at h
theorem op_eqN {a b : Nat} : Op2 c μ ν (compareOp .Eq) (nt a) (nt b) (.bool (decide (a = b))) := by
  have h := op_eq (c := c) (μ := μ) (ν := ν) (a := (a : Int)) (b := (b : Int))
  have e : ((a : Int) == (b : Int)) = decide (a = b) := by
    by_cases q : a = b
    · subst q; simp
    · rw [decide_eq_false q]; exact beq_false_of_ne (by omega)
  rwa [e] at h
theorem op_ltN {a b : Nat} : Op2 c μ ν (compareOp .Lt) (nt a) (nt b) (.bool (decide (a < b))) := by
  have h := op_lt (c := c) (μ := μ) (ν := ν) (a := (a : Int)) (b := (b : Int))
  have e : decide ((a : Int) < (b : Int)) = decide (a < b) := by simp
  rwa [e] at h
theorem op_subN {a b : Nat} (h : b ≤ a) : Op2 c μ ν (binaryOp .Sub) (nt a) (nt b) (nt (a - b)) := by
  have h' := op_sub (c := c) (μ := μ) (ν := ν) (a := (a : Int)) (b := (b : Int))
  rwa [← Int.ofNat_sub h] at h'
theorem pow2_small {n : Nat} (h : n ≤ 12) : 0 < 2 ^ n ∧ 2 ^ n < 1073741824 :=
  ⟨Nat.pow_pos (by decide), Nat.lt_of_le_of_lt (Nat.pow_le_pow_right (by decide) h) (by decide)⟩
theorem pow4_small {n : Nat} (h : n ≤ 12) : 0 < 4 ^ n ∧ 4 ^ n < 1073741824 :=
  ⟨Nat.pow_pos (by decide), Nat.lt_of_le_of_lt (Nat.pow_le_pow_right (by decide) h) (by decide)⟩
theorem Ev.itemN {value slice : Expr} {pos : Pos} {d₁ d : D} {ds : List D} {k : Nat} (hv : Ev c μ ν value d₁) (hi : Ev c μ ν slice (nt k)) (hl : LD ν d₁ ds) (hx : ds[k]? = some d) (hsz : ds.length ≤ 16777216)
    (hs : ∀ o i, subscripted slice false o i = operate [o, i] (getItem o i) := by intro _ _; with_unfolding_all rfl) : Ev c μ ν (.Subscript value slice pos) d :=
  Ev.item hv hi hl (by omega) (by simpa using hx) hsz hs
end

/-- the deeds and the logs -/
structure Sys where
  m : Nat
  a : Nat → Nat
  b : Nat → Nat
  o : Nat → Nat
  log : Nat → List Nat

abbrev Sys.deed (S : Sys) (k : Nat) : List Int := [(S.a k : Int), (S.b k : Int), (S.o k : Int)]
abbrev Sys.deeds (S : Sys) : List (List Int) := (List.range S.m).map S.deed
abbrev ofN (l : List Nat) : List Int := l.map fun (n : Nat) => (n : Int)
abbrev Sys.logs (S : Sys) : List (List Int) := (List.range 12).map fun r => ofN (S.log r)

structure Sys.Ok (S : Sys) : Prop where
  m8 : S.m ≤ 8
  a12 : ∀ k, S.a k < 12
  b12 : ∀ k, S.b k < 12
  ne : ∀ k, S.a k ≠ S.b k
  o256 : ∀ k, S.o k < 256
  mem : ∀ r, r < 12 → ∀ k, k ∈ S.log r ↔ k < S.m ∧ (S.a k = r ∨ S.b k = r)
  nodup : ∀ r, r < 12 → (S.log r).Nodup

/-- what a right's log tells, its first count deeds done -/
def Sys.ask (S : Sys) (mode : Nat) : Nat → Nat → Nat → Nat
  | 0, r, _ => mode / 2 ^ r % 2
  | n + 1, r, count => if count = 0 then mode / 2 ^ r % 2 else
      let k := (S.log r).getD (count - 1) 0
      let f := S.ask mode n (S.a k) ((S.log (S.a k)).idxOf k)
      let s := S.ask mode n (S.b k) ((S.log (S.b k)).idxOf k)
      let x := S.o k / 4 ^ (2 * f + s) % 4
      if r = S.a k then x / 2 else x % 2

theorem Sys.ask_lt (S : Sys) (mode n r count : Nat) : S.ask mode n r count < 2 := by
  cases n with
  | zero => exact Nat.mod_lt _ (by decide)
  | succ n =>
    unfold Sys.ask
    split
    · exact Nat.mod_lt _ (by decide)
    · dsimp only
      split
      · have := Nat.mod_lt (S.o ((S.log r).getD (count - 1) 0) / 4 ^ (2 * S.ask mode n (S.a ((S.log r).getD (count - 1) 0)) ((S.log (S.a ((S.log r).getD (count - 1) 0))).idxOf ((S.log r).getD (count - 1) 0)) + S.ask mode n (S.b ((S.log r).getD (count - 1) 0)) ((S.log (S.b ((S.log r).getD (count - 1) 0))).idxOf ((S.log r).getD (count - 1) 0)))) (show 0 < 4 by decide)
        omega
      · exact Nat.mod_lt _ (by decide)

/-- the logs run upward by rk -/
def Sys.Up (S : Sys) (rk : Nat → Nat) : Prop := ∀ r, r < 12 → (S.log r).Pairwise fun x y => rk x < rk y

def Sys.Bound (S : Sys) (rk : Nat → Nat) (n r count : Nat) : Prop := count = 0 ∨ rk ((S.log r).getD (count - 1) 0) < n

theorem Sys.log_len {S : Sys} (h : S.Ok) {r : Nat} (hr : r < 12) : (S.log r).length ≤ 8 := by
  have h1 : (S.log r).length ≤ (List.range S.m).length := (h.nodup r hr).length_le_of_subset fun k hk => by
    simpa using ((h.mem r hr k).mp hk).1
  have := h.m8
  simp at h1; omega

theorem small_log {S : Sys} (h : S.Ok) {r : Nat} (hr : r < 12) : SmallL (ofN (S.log r)) := by
  refine ⟨by simpa using Nat.le_trans (Sys.log_len h hr) (by decide), fun n hn => ?_⟩
  simp only [ofN, List.mem_map] at hn
  obtain ⟨k, hk, rfl⟩ := hn
  have := ((h.mem r hr k).mp hk).1
  have := h.m8
  omega

theorem idx_ofN (l : List Nat) (k : Nat) : (ofN l).idxOf (k : Int) = l.idxOf k := by
  induction l with
  | nil => rfl
  | cons x l ih =>
    have : ((x : Int) == (k : Int)) = (x == k) := by
      by_cases q : x = k
      · subst q; simp
      · rw [beq_false_of_ne q]; exact beq_false_of_ne (by omega)
    rw [show ofN (x :: l) = (x : Int) :: ofN l from rfl, List.idxOf_cons, List.idxOf_cons, ih, this]

theorem up_idx {rk : Nat → Nat} {l : List Nat} (hp : l.Pairwise fun x y => rk x < rk y) {k : Nat} (hk : k ∈ l) (h0 : l.idxOf k ≠ 0) : rk (l.getD (l.idxOf k - 1) 0) < rk k := by
  have hi : l.idxOf k < l.length := List.idxOf_lt_length_iff.mpr hk
  have e : l[l.idxOf k] = k := List.getElem_idxOf hi
  have := List.pairwise_iff_getElem.mp hp (l.idxOf k - 1) (l.idxOf k) (by omega) hi (by omega)
  rw [e] at this
  rwa [List.getD_eq_getElem?_getD, List.getElem?_eq_getElem (by omega), Option.getD_some]

theorem Ev.indexN {c : Cx} {μ : Vars} {ν : Muts} {o e : Expr} {apos pos : Pos} {l : List Nat} {k : Nat} (ho : Ev c μ ν o (li (ofN l))) (he : Ev c μ ν e (nt k)) (hlay : SmallL (ofN l)) (hk : k ∈ l)
    (hbase : attributeBase o "index" c.env (eval o c.env) = eval o c.env := by rfl) (hline : (apos.endLine == pos.line) = true := by rfl)
    (htrees : backTo pos (starEach [e] c.env) = [(false, eval e c.env)] := by rfl) : Ev c μ ν (.Call (.Attribute o "index" apos) [e] [] pos) (nt (l.idxOf k)) := by
  have := Ev.index ho (Or.inl rfl) he hlay (by simp only [ofN, List.mem_map]; exact ⟨k, hk, rfl⟩) hbase hline htrees
  rwa [idx_ofN] at this

/-- the frame of a def that changes nothing -/
noncomputable abbrev pcx (prog : Program) (w : World) (A : Around) (hL : Heap) (P : Params) (a : Addr) (s : Shared) (H : Addr → Prop) : Cx :=
  ⟨prog, w, A.deeper (callEnvC (fdAt P a) s.heap.objs.size a), hL, s, fun _ => False, H, noView, callEnvC (fdAt P a) s.heap.objs.size a, fun _ => true, fun b => (noMuts b).isSome = true⟩

variable {P : Params} {prog : Program} {w : World} {hL : Heap}

theorem nsOk (P : Params) : nsOkIn (Mine.hd.heap_39 P) mainGlobals = true := by kernel_rfl

theorem imode_at (h : HL P hL) : DefAt hL 49 (fdAt P 49) (bodyAt P 49) ["mode"] := def_at h 49 _ 48
theorem ifmt_at (h : HL P hL) : DefAt hL 56 (fdAt P 56) (bodyAt P 56) ["mode"] := def_at h 56 _ 55
theorem asked_at (h : HL P hL) : DefAt hL 134 (fdAt P 134) (bodyAt P 134) ["deeds", "logs", "mode", "right", "count"] := def_at h 134 _ 133

theorem imode_pure (h : HL P hL) (x : Int) : Pure prog w hL 49 1 [.int x] (.int (Builtin.bitAnd x 4095)) := by
  refine pure_of (imode_at h) rfl (fun vs hv => ?_) fun A s H r => ?_
  · obtain ⟨v, rfl⟩ := List.length_eq_one_iff.mp hv
    rfl
  · exact Ex.ret (Ev.bin (Ev.name rfl) Ev.int op_and) fun v s' F hv => ⟨v, rfl, F.kp fun _ e => e, hv⟩
theorem ifmt_pure (h : HL P hL) (x : Int) : Pure prog w hL 56 1 [.int x] (.int (Builtin.bitAnd x 61440)) := by
  refine pure_of (ifmt_at h) rfl (fun vs hv => ?_) fun A s H r => ?_
  · obtain ⟨v, rfl⟩ := List.length_eq_one_iff.mp hv
    rfl
  · exact Ex.ret (Ev.bin (Ev.name rfl) Ev.int op_and) fun v s' F hv => ⟨v, rfl, F.kp fun _ e => e, hv⟩

theorem DefAt.obj {a : Addr} {fd : FuncData} {body : List Stmt} {ns : List Str} (K : DefAt hL a fd body ns) : ∃ o, hL.get? a = some o ∧ o.data = .func fd := K.at_

theorem asked_pure (h : HL P hL) (S : Sys) (hS : S.Ok) (rk : Nat → Nat) (hup : S.Up rk) (mode : Nat) : ∀ (n r count : Nat), r < 12 → count ≤ (S.log r).length → S.Bound rk n r count →
    Pure prog w hL 134 (n + 1) [ll S.deeds, ll S.logs, nt mode, nt r, nt count] (nt (S.ask mode n r count)) := by
  intro n
  induction n with
  | zero =>
    intro r count hr hc hb
    have h0 : count = 0 := by rcases hb with h | h; exact h; omega
    subst h0
    refine pure_of (asked_at h) rfl (fun vs hv => ?_) fun A s H room => ?_
    · match vs, hv with
      | [_, _, _, _, _], _ => rfl
    · refine Ex.ite (b := true) (EvB.cmp (Ev.name rfl) (Ev.nat 0) op_eqN) (fun _ => ?_) (fun e => by cases e)
      exact Ex.ret (Ev.bin (Ev.bin (Ev.name rfl) (Ev.bin (Ev.nat 2) (Ev.name rfl) (op_powN (by decide) (by omega))) (op_divN (pow2_small (by omega)).1 (pow2_small (by omega)).2)) (Ev.nat 2) (op_modN (by decide)))
        fun v s' F hv => ⟨v, rfl, F.kp fun _ e => e, hv⟩
  | succ n ih =>
    intro r count hr hc hb
    refine pure_of (asked_at h) rfl (fun vs hv => ?_) fun A s H room => ?_
    · match vs, hv with
      | [_, _, _, _, _], _ => rfl
    · refine Ex.ite (EvB.cmp (Ev.name rfl) (Ev.nat 0) op_eqN) (fun e => ?_) (fun e => ?_)
      · have h0 : count = 0 := by simpa using e
        subst h0
        exact Ex.ret (Ev.bin (Ev.bin (Ev.name rfl) (Ev.bin (Ev.nat 2) (Ev.name rfl) (op_powN (by decide) (by omega))) (op_divN (pow2_small (by omega)).1 (pow2_small (by omega)).2)) (Ev.nat 2) (op_modN (by decide)))
          fun v s' F hv => ⟨v, rfl, F.kp fun _ e => e, by simpa [Sys.ask] using hv⟩
      · have h0 : count ≠ 0 := by simpa using e
        refine Ex.nil fun s₁ F₁ => ?_
        refine Ex.then ?_ s₁ F₁
        have hlt : count - 1 < (S.log r).length := by omega
        have hbk : rk ((S.log r).getD (count - 1) 0) < n + 1 := by rcases hb with q | q; exact absurd q h0; exact q
        have hkm : (S.log r).getD (count - 1) 0 ∈ S.log r := by
          rw [List.getD_eq_getElem?_getD, List.getElem?_eq_getElem hlt, Option.getD_some]; exact List.getElem_mem hlt
        have hask : S.ask mode (n + 1) r count = (let k := (S.log r).getD (count - 1) 0
          let f := S.ask mode n (S.a k) ((S.log (S.a k)).idxOf k)
          let s := S.ask mode n (S.b k) ((S.log (S.b k)).idxOf k)
          let x := S.o k / 4 ^ (2 * f + s) % 4
          if r = S.a k then x / 2 else x % 2) := by rw [Sys.ask, if_neg h0]
        have hidx : ((S.log r).map fun (n : Nat) => nt n)[count - 1]? = some (nt ((S.log r).getD (count - 1) 0)) := by
          rw [List.getElem?_map, List.getElem?_eq_getElem hlt, List.getD_eq_getElem?_getD, List.getElem?_eq_getElem hlt]; rfl
        generalize hk : (S.log r).getD (count - 1) 0 = k at *
        dsimp only at hask
        have hkm' := (hS.mem r hr k).mp hkm
        have lg : ∀ q, q < 12 → (S.logs.map li)[q]? = some (li (ofN (S.log q))) := fun q hq => by
          simp [hq]
        have dg : (S.deeds.map li)[k]? = some (li (S.deed k)) := by
          simp [hkm'.1]
        have lsz : (S.logs.map li).length ≤ 16777216 := by simp
        have dsz : (S.deeds.map li).length ≤ 16777216 := by have := hS.m8; simp; omega
        refine Ex.assign (Ev.itemN (Ev.itemN (Ev.name rfl) (Ev.name rfl) (LD.data _) (lg r hr) lsz) (Ev.bin (Ev.name rfl) (Ev.nat 1) (op_subN (by omega))) (LD.data _) (d := nt k) (by simpa using hidx) (by have := Sys.log_len hS hr; simp; omega)) (Or.inl (by kernel_rfl)) ?_
        refine Ex.unpackList (names := [("one", _), ("two", _), ("octet", _)]) (Ev.itemN (Ev.name rfl) (Ev.name rfl) (LD.data _) dg dsz) (LD.data _) room.handled rfl (fun n hn => ?_) ?_
        · simp at hn
          rcases hn with rfl | rfl | rfl <;> exact Or.inl (by kernel_rfl)
        have callAsk : ∀ (μ : Vars) (x : Nat) (hx : x < 12), (S.a k = x ∨ S.b k = x) → CallIs (pcx prog w A hL P 134 s H) μ noMuts (.ref 134)
            [ll S.deeds, ll S.logs, nt mode, nt x, nt ((S.log x).idxOf k)] (nt (S.ask mode n x ((S.log x).idxOf k))) := by
          intro μ x hx hor
          have hmem : k ∈ S.log x := (hS.mem x hx k).mpr ⟨hkm'.1, hor⟩
          refine CallIs.ofPure (need := n + 1) room.deeper (ih x _ hx (Nat.le_of_lt (List.idxOf_lt_length_iff.mpr hmem)) ?_)
          by_cases q : (S.log x).idxOf k = 0
          · exact Or.inl q
          · exact Or.inr (by have := up_idx (hup x hx) hmem q; omega)
        obtain ⟨o134, ho134, hfd134⟩ := (asked_at h).obj
        have gl : ∀ (μ : Vars) (pos : Pos), Ev (pcx prog w A hL P 134 s H) μ noMuts (.Name "_law_asked" pos) (.val (.ref 134)) := fun μ pos =>
          Ev.glob (h.glob (nsOk P) (by kernel_rfl) (by kernel_rfl)) (by kernel_rfl) (by show mainGlobals ∉ tabs; decide) (by show builtinsNs ∉ tabs; decide)
        refine Ex.assign (Ev.callF (gl _ _) ho134 hfd134 (by decide) (EvL.cons (Ev.name rfl) (EvL.cons (Ev.name rfl) (EvL.cons (Ev.name rfl) (EvL.cons (Ev.name rfl) (EvL.cons (Ev.indexN (Ev.itemN (Ev.name rfl) (Ev.name rfl) (LD.data _) (lg _ (hS.a12 k)) lsz) (Ev.name rfl) (small_log hS (hS.a12 k)) ((hS.mem _ (hS.a12 k) k).mpr ⟨hkm'.1, Or.inl rfl⟩)) EvL.nil))))) (callAsk _ _ (hS.a12 k) (Or.inl rfl))) (Or.inl (by kernel_rfl)) ?_
        refine Ex.assign (Ev.callF (gl _ _) ho134 hfd134 (by decide) (EvL.cons (Ev.name rfl) (EvL.cons (Ev.name rfl) (EvL.cons (Ev.name rfl) (EvL.cons (Ev.name rfl) (EvL.cons (Ev.indexN (Ev.itemN (Ev.name rfl) (Ev.name rfl) (LD.data _) (lg _ (hS.b12 k)) lsz) (Ev.name rfl) (small_log hS (hS.b12 k)) ((hS.mem _ (hS.b12 k) k).mpr ⟨hkm'.1, Or.inr rfl⟩)) EvL.nil))))) (callAsk _ _ (hS.b12 k) (Or.inr rfl))) (Or.inl (by kernel_rfl)) ?_
        have f2 := S.ask_lt mode n (S.a k) ((S.log (S.a k)).idxOf k)
        have s2 := S.ask_lt mode n (S.b k) ((S.log (S.b k)).idxOf k)
        generalize S.ask mode n (S.a k) ((S.log (S.a k)).idxOf k) = f at *
        generalize S.ask mode n (S.b k) ((S.log (S.b k)).idxOf k) = t at *
        refine Ex.assign (Ev.bin (Ev.bin (Ev.name rfl) (Ev.bin (Ev.nat 4) (Ev.bin (Ev.bin (Ev.nat 2) (Ev.name rfl) (op_mulN (by decide))) (Ev.name rfl) op_addN) (op_powN (by decide) (by omega))) (op_divN (pow4_small (by omega)).1 (pow4_small (by omega)).2)) (Ev.nat 4) (op_modN (by decide))) (Or.inl (by kernel_rfl)) ?_
        refine Ex.ret (d := nt (S.ask mode (n + 1) r count)) (Ev.ifexp (b := decide (r = S.a k)) (EvB.cmp (Ev.name rfl) (Ev.name rfl) op_eqN) (fun q => ?_) (fun q => ?_)) fun v s' F hv => ⟨v, rfl, F.kp fun _ e => e, hv⟩
        · rw [hask, if_pos (by simpa using q)]
          exact Ev.bin (Ev.name rfl) (Ev.nat 2) (op_divN (by decide) (by decide))
        · rw [hask, if_neg (by simpa using q)]
          exact Ev.bin (Ev.name rfl) (Ev.nat 2) (op_modN (by decide))
end Mine
end
section
open PySem PySem.W PyProof.Rows
set_option autoImplicit false
set_option maxRecDepth 100000
namespace Mine
section
variable {c : Cx} {μ : Vars} {ν : Muts} {P : Flow → Shared → Prop} {E : Value → Shared → Prop} {rest : List Stmt}

abbrev sg (l : List Nat) : D := .str ⟨l.toArray⟩
theorem Ev.strc (l : List Nat) {x : Str} {k : Nat} {pos : Pos} (h : x = ⟨l.toArray⟩ := by decide +kernel) : Ev c μ ν (.Constant (.str x) k pos) (sg l) := h ▸ Ev.str

theorem op_addS {a b : List Nat} (hsz : a.length + b.length ≤ 16777216) : Op2 c μ ν (binaryOp .Add) (sg a) (sg b) (sg (a ++ b)) := fun s E x y F hx hy => by
  simp only [Rep] at hx hy
  obtain ⟨t, rfl⟩ := hx
  obtain ⟨u, rfl⟩ := hy
  refine PyProof.Rows.add_str (fun t' tk => ⟨Kp.tok s _, ?_⟩) (by rw [sizeLine_eq]; simpa [Str.length] using hsz)
  simp only [Rep]
  exact ⟨t', by congr 1; exact Str.ext' (by simp [Str.cps_append])⟩
theorem op_iaddS {a b : List Nat} (hsz : a.length + b.length ≤ 16777216) : Op2 c μ ν (inplaceOp .Add) (sg a) (sg b) (sg (a ++ b)) := fun s E x y F hx hy => by
  simp only [Rep] at hx hy
  obtain ⟨t, rfl⟩ := hx
  obtain ⟨u, rfl⟩ := hy
  refine PyProof.Rows.iadd_str (fun t' tk => ⟨Kp.tok s _, ?_⟩) (by rw [sizeLine_eq]; simpa [Str.length] using hsz)
  simp only [Rep]
  exact ⟨t', by congr 1; exact Str.ext' (by simp [Str.cps_append])⟩

theorem Ev.itemS {value slice : Expr} {pos : Pos} {l : List Nat} {k ch : Nat} (hv : Ev c μ ν value (sg l)) (hi : Ev c μ ν slice (nt k)) (hx : l[k]? = some ch) (hsz : l.length ≤ 16777216)
    (hs : ∀ o i, subscripted slice false o i = operate [o, i] (getItem o i) := by intro _ _; with_unfolding_all rfl) : Ev c μ ν (.Subscript value slice pos) (sg [ch]) := by
  refine Ev.sub hv hi fun s E a b F ra rb => ?_
  simp only [Rep] at ra rb
  obtain ⟨t, rfl⟩ := ra
  obtain ⟨u, rfl⟩ := rb
  have hlt : k < l.length := (List.getElem?_eq_some_iff.mp hx).1
  refine tail_any (typeIs_str s _ t) PySem.F.slot_str_getitem.lookup (PyProof.Rows.getItem_str (c := ch) ?_ ?_ ⟨Kp.tok s _, ⟨_, rfl⟩⟩) (hs _ _)
  · simp only [Bool.or_eq_false_iff, decide_eq_false_iff_not]; omega
  · have e1 : (Str.length ⟨l.toArray⟩) = l.length := by simp [Str.length]
    rw [e1]
    have e2 : seqIndex? (k : Int) l.length = some k := by
      unfold seqIndex?
      simp
      omega
    rw [e2]
    simpa using hx

theorem FD.load {s : Shared} {x : Str} {d : D} (F : c.F μ ν s) (hx : μ x = some d) (hcd : (x == ("__classdict__" : Str)) = false := by decide) : wpAny c.M c.A (loadName c.env x) (Post c ν s d) E s := by
  obtain ⟨m, cm, hn, hc, hv⟩ := F.vars
  obtain ⟨v, hr, hw⟩ := hv x d hx
  rcases hw with ⟨hk, hm⟩ | ⟨hk, hsome, hm⟩
  · exact wpAny_loadName_local F.fn hk hn hm ⟨Kp.refl s, hr⟩
  · obtain ⟨a, ha⟩ := Option.isSome_iff_exists.mp hsome
    rcases hk with hk | hk
    · exact wpAny_loadName_cell F.fn hk ha (hm ▸ hc x a ha) ⟨Kp.refl s, hr⟩
    · exact wpAny_loadName_free F.fn hk ha (hm ▸ hc x a ha) ⟨Kp.refl s, hr⟩ hcd

theorem Ex.aug {x : Str} {p pos : Pos} {e : Expr} {op : Operator} {d₁ d₂ d : D} (hx : μ x = some d₁) (he : Ev c μ ν e d₂) (ho : Op2 c μ ν (inplaceOp op) d₁ d₂ d) (hk : Own c x) (hr : Ex c (upd μ x d) ν rest P E)
    (hcd : (x == ("__classdict__" : Str)) = false := by decide) : Ex c μ ν (.AugAssign (.Name x p) op e pos :: rest) P E := by
  refine Ex.cons fun s F => wpAny_AugAssign_Name (wpAny_mono (F.load hx hcd) (fun a s₁ h₁ => ?_) fun _ _ e => e)
  refine wpAny_mono (he s₁ E (F.keeps h₁.1)) (fun b s₂ h₂ => ?_) fun _ _ e => e
  have F2 := F.keeps (h₁.1.trans h₂.1)
  refine wpAny_mono (ho s₂ E a b F2 (h₁.2.keeps h₂.1) h₂.2) (fun v s₃ h₃ => ?_) fun _ _ e => e
  exact FD.store (F2.keeps h₃.1) hk h₃.2 fun s' F' _ => hr s' F'
end

/-- the three signs of a triple of rights -/
def triple (n top : Nat) : List Nat :=
  [[45, 114].getD (n / 2 ^ top % 2) 0, [45, 119].getD (n / 2 ^ (top - 1) % 2) 0,
   (if top = 2 then [45, 120, 84, 116] else [45, 120, 83, 115]).getD (n / 2 ^ (top - 2) % 2 + 2 * (n / 2 ^ (9 + top / 3) % 2)) 0]
def listing (n : Nat) : List Nat := [[63, 112, 99, 63, 100, 63, 98, 63, 45, 63, 108, 63, 115, 63, 63, 63].getD (n / 4096 % 16) 0] ++ triple n 8 ++ triple n 5 ++ triple n 2

theorem get_getD {l : List Nat} {k : Nat} (h : k < l.length) : l[k]? = some (l.getD k 0) := by
  rw [List.getElem?_eq_getElem h, List.getD_eq_getElem?_getD, List.getElem?_eq_getElem h]; rfl

variable {P : Params} {prog : Program} {w : World} {hL : Heap}
theorem listing_at (h : HL P hL) : DefAt hL 141 (fdAt P 141) (bodyAt P 141) ["number"] := def_at h 141 _ 140

theorem listing_pure (h : HL P hL) (n : Nat) : Pure prog w hL 141 1 [nt n] (sg (listing n)) := by
  refine pure_of (listing_at h) rfl (fun vs hv => ?_) fun A s H room => ?_
  · obtain ⟨v, rfl⟩ := List.length_eq_one_iff.mp hv
    rfl
  · refine Ex.assign (Ev.itemS (Ev.strc [63, 112, 99, 63, 100, 63, 98, 63, 45, 63, 108, 63, 115, 63, 63, 63]) (Ev.bin (Ev.bin (Ev.name rfl) (Ev.nat 4096) (op_divN (by decide) (by decide))) (Ev.nat 16) (op_modN (by decide))) (get_getD (by simp; omega)) (by simp)) (Or.inl (by kernel_rfl)) ?_
    refine Ex.forLoop (ds := [nt 8, nt 5, nt 2]) (fun i μ ν => μ "number" = some (nt n) ∧ μ "shown" = some (sg ([[63, 112, 99, 63, 100, 63, 98, 63, 45, 63, 108, 63, 115, 63, 63, 63].getD (n / 4096 % 16) 0] ++ (([8, 5, 2] : List Nat).take i).flatMap (triple n))) ∧ ν = noMuts) (fun _ _ => False)
      (EvI.list (Ev.list (EvL.cons (Ev.nat 8) (EvL.cons (Ev.nat 5) (EvL.cons (Ev.nat 2) EvL.nil)))) room.handled) (Or.inl (by kernel_rfl)) ⟨rfl, rfl, rfl⟩ ?_ (fun _ _ h => h.elim) ?_
    · rintro g i d μ' ν' hd ⟨hn, hsh, rfl⟩
      obtain ⟨top, ht, rfl, htop, hi⟩ : ∃ top : Nat, ([8, 5, 2] : List Nat)[i]? = some top ∧ d = nt top ∧ (top = 8 ∨ top = 5 ∨ top = 2) ∧ i < 3 := by
        match i, hd with
        | 0, hd => exact ⟨8, rfl, by simpa using hd.symm, by simp, by decide⟩
        | 1, hd => exact ⟨5, rfl, by simpa using hd.symm, by simp, by decide⟩
        | 2, hd => exact ⟨2, rfl, by simpa using hd.symm, by simp, by decide⟩
      have hup : ∀ {x : Str} {d d' : D}, x ≠ "top" → μ' x = some d → upd μ' "top" d' x = some d := fun hx e => by simp only [upd, hx, if_false]; exact e
      have hlen : (([8, 5, 2] : List Nat).take i).length ≤ 3 := by simp; omega
      generalize hacc : ([[63, 112, 99, 63, 100, 63, 98, 63, 45, 63, 108, 63, 115, 63, 63, 63].getD (n / 4096 % 16) 0] ++ (([8, 5, 2] : List Nat).take i).flatMap (triple n)) = acc at hsh
      have hal : acc.length ≤ 10 := by
        rw [← hacc]
        match i, hi with
        | 0, _ => simp
        | 1, _ => simp [triple]
        | 2, _ => simp [triple]
      have e1 : n / 2 ^ top % 2 < 2 := Nat.mod_lt _ (by decide)
      have e2 : n / 2 ^ (top - 1) % 2 < 2 := Nat.mod_lt _ (by decide)
      have e3 : n / 2 ^ (top - 2) % 2 < 2 := Nat.mod_lt _ (by decide)
      have e4 : n / 2 ^ (9 + top / 3) % 2 < 2 := Nat.mod_lt _ (by decide)
      have t12 : top ≤ 8 := by omega
      have t3 : top / 3 ≤ 2 := by omega
      refine Ex.aug (hup (by decide) hsh) (Ev.bin (Ev.itemS (Ev.strc [45, 114]) (Ev.bin (Ev.bin (Ev.name (hup (by decide) hn)) (Ev.bin (Ev.nat 2) (Ev.name rfl) (op_powN (by decide) (by omega))) (op_divN (pow2_small (by omega)).1 (pow2_small (by omega)).2)) (Ev.nat 2) (op_modN (by decide))) (get_getD (by simpa using e1)) (by simp))
        (Ev.itemS (Ev.strc [45, 119]) (Ev.bin (Ev.bin (Ev.name (hup (by decide) hn)) (Ev.bin (Ev.nat 2) (Ev.bin (Ev.name rfl) (Ev.nat 1) (op_subN (by omega))) (op_powN (by decide) (by omega))) (op_divN (pow2_small (by omega)).1 (pow2_small (by omega)).2)) (Ev.nat 2) (op_modN (by decide))) (get_getD (by simpa using e2)) (by simp)) (op_addS (by simp))) (op_iaddS (by simp; omega)) (Or.inl (by kernel_rfl)) ?_
      have hup2 : ∀ {x : Str} {d d' d'' : D}, x ≠ "shown" → x ≠ "top" → μ' x = some d → upd (upd μ' "top" d') "shown" d'' x = some d := fun hx hx' e => by simp only [upd, hx, hx', if_false]; exact e
      refine Ex.assign (Ev.bin (Ev.bin (Ev.bin (Ev.name (hup2 (by decide) (by decide) hn)) (Ev.bin (Ev.nat 2) (Ev.bin (Ev.name rfl) (Ev.nat 2) (op_subN (by omega))) (op_powN (by decide) (by omega))) (op_divN (pow2_small (by omega)).1 (pow2_small (by omega)).2)) (Ev.nat 2) (op_modN (by decide)))
        (Ev.bin (Ev.nat 2) (Ev.bin (Ev.bin (Ev.name (hup2 (by decide) (by decide) hn)) (Ev.bin (Ev.nat 2) (Ev.bin (Ev.nat 9) (Ev.bin (Ev.name rfl) (Ev.nat 3) (op_divN (by decide) (by decide))) op_addN) (op_powN (by decide) (by omega))) (op_divN (pow2_small (by omega)).1 (pow2_small (by omega)).2)) (Ev.nat 2) (op_modN (by decide))) (op_mulN (by decide))) op_addN) (Or.inl (by kernel_rfl)) ?_
      refine Ex.aug rfl (Ev.itemS (l := if top = 2 then [45, 120, 84, 116] else [45, 120, 83, 115]) (Ev.ifexp (b := decide (top = 2)) (EvB.cmp (Ev.name rfl) (Ev.nat 2) op_eqN) (fun q => ?_) (fun q => ?_)) (Ev.name rfl) (get_getD (by split <;> (simp; omega))) (by split <;> simp)) (op_iaddS (by simp; omega)) (Or.inl (by kernel_rfl)) ?_
      · rw [if_pos (by simpa using q)]; exact Ev.strc _
      · rw [if_neg (by simpa using q)]; exact Ev.strc _
      · refine Ex.nil fun s' F' => ⟨_, _, ⟨?_, ?_, rfl⟩, F'⟩
        · exact hn
        · have e5 : (([8, 5, 2] : List Nat).take (i + 1)) = ([8, 5, 2] : List Nat).take i ++ [top] := by
            rw [List.take_add_one, ht]; rfl
          refine congrArg (fun l => some (sg l)) ?_
          rw [e5, List.flatMap_append, ← hacc]
          simp [triple]
    · rintro μ' ν' ⟨hn, hsh, rfl⟩
      refine Ex.nil fun s' F' => ?_
      refine Ex.then (Ex.ret (Ev.name hsh) fun v s' F hv => ⟨v, rfl, F.kp fun _ e => e, ?_⟩) s' F'
      have e : listing n = ([[63, 112, 99, 63, 100, 63, 98, 63, 45, 63, 108, 63, 115, 63, 63, 63].getD (n / 4096 % 16) 0] ++ (([8, 5, 2] : List Nat).take 3).flatMap (triple n)) := by
        simp [listing]
      rw [e]; exact hv
end Mine
end
section
open PySem PySem.W PyProof.Rows
set_option autoImplicit false
set_option maxRecDepth 100000
namespace Mine
variable {c : Cx} {μ : Vars} {ν : Muts}

/-- data that lies in the known heap -/
def libView (hL : Heap) : View := fun b => if b ∈ tabs then none else hL.get? b
theorem FD.libLe {s : Shared} (F : c.F μ ν s) : SeqLe (libView c.hL) (mask c.H ν s.heap) := by
  intro b o e _
  unfold libView at e
  split at e
  · cases e
  · rename_i hb
    refine mask_some.mpr ⟨fun q => ?_, ?_, F.lib.get b o hb e⟩
    · rw [F.hidL b q] at e; cases e
    · cases q : ν b with
      | none => rfl
      | some l => rw [(F.muts b l q).1] at e; cases e

/-- an iterator that stands in the frame -/
structure Iter (c : Cx) (ν : Muts) (s₂ : Shared) (I : Addr) (ds : List D) (fp wr : List Addr) (Pv : Nat → Value → Prop) (St : Nat → Heap → Prop) : Prop where
  walks : Walks c.prog c.w c.A I fp wr ds.length Pv St
  st : St 0 s₂.heap
  fpOk : ∀ b ∈ fp, b ∈ wr ∨ (∃ o, s₂.heap.get? b = some o ∧ Obj.isSeq o = true ∧ ¬ c.H b ∧ ν b = none) ∨ ∃ o, c.hL.get? b = some o ∧ b ∉ tabs ∧ Obj.isFields o = true
  wrOk : ∀ b ∈ wr, c.s₀.heap.get? b = none ∧ c.hL.get? b = none ∧ c.g b = none ∧ ¬ c.H b ∧ b ∉ tabs
  fields : ∀ i h, St i h → ∀ b ∈ wr, ∃ o, h.get? b = some o ∧ Obj.isFields o = true
  vals : ∀ i v d, Pv i v → ds[i]? = some d → Rep (mask c.H ν s₂.heap) d v

theorem IterOk.iter {s s₂ : Shared} {I : Addr} {ds : List D} {fp wr : List Addr} {Pv : Nat → Value → Prop} {St : Nat → Heap → Prop} (F : c.F μ ν s) (K : IterOk c ν s s₂ I ds fp wr Pv St) : Iter c ν s₂ I ds fp wr Pv St where
  walks := K.walks
  st := K.st
  fpOk := K.fpOk
  wrOk := fun b hb => by
    have e := K.wrOk b hb
    refine ⟨?_, F.lib.fresh e, F.g_none e, fun q => ?_, fun q => ?_⟩
    · cases q : c.s₀.heap.get? b with
      | none => rfl
      | some o => have := F.live b o q; rw [e] at this; cases this
    · have := F.hid b q; rw [e] at this; cases this
    · have := F.lib.tab b q; rw [e] at this; cases this
  fields := K.fields
  vals := K.vals

/-- the invariant between the turns -/
def Between (c : Cx) (g : View) (J : Nat → Vars → Muts → Prop) (ds : List D) (St : Nat → Heap → Prop) (n : Nat) (s' : Shared) : Prop :=
  ∃ i μ' ν', i ≤ ds.length ∧ n = ds.length + 1 - i ∧ St i s'.heap ∧ J i μ' ν' ∧ FD { c with g := g } μ' ν' s'

theorem Iter.start {s₂ : Shared} {I : Addr} {ds : List D} {fp wr : List Addr} {Pv : Nat → Value → Prop} {St : Nat → Heap → Prop} {J : Nat → Vars → Muts → Prop} (F : c.F μ ν s₂) (K : Iter c ν s₂ I ds fp wr Pv St) (h0 : J 0 μ ν) :
    Between c (freeze c ν s₂.heap) J ds St (ds.length + 1) s₂ := ⟨0, μ, ν, Nat.zero_le _, rfl, K.st, h0, F.freeze⟩

theorem Iter.turn {s₂ : Shared} {I : Addr} {ds : List D} {fp wr : List Addr} {Pv : Nat → Value → Prop} {St : Nat → Heap → Prop} {J : Nat → Vars → Muts → Prop} (F : c.F μ ν s₂) (K : Iter c ν s₂ I ds fp wr Pv St) {E : Value → Shared → Prop} (n : Nat) (s' : Shared)
    (h : Between c (freeze c ν s₂.heap) J ds St n s') : wpAny c.M c.A (pyNext (.ref I)) (fun r s₁ => match r with
      | none => ∃ μ' ν', J ds.length μ' ν' ∧ c.F μ' ν' s₁
      | some v => ∃ i d μ' ν' g, ds[i]? = some d ∧ J i μ' ν' ∧ FD { c with g := g } μ' ν' s₁ ∧ Rep (mask c.H ν' s₁.heap) d v ∧ (∀ b o, c.g b = some o → g b = some o) ∧ (∀ b o, mask c.H ν s₂.heap b = some o → Obj.isSeq o = true → g b = some o) ∧
          (∀ μ'' ν'' s₆, J (i + 1) μ'' ν'' → FD { c with g := g } μ'' ν'' s₆ → ∃ m, m < n ∧ Between c (freeze c ν s₂.heap) J ds St m s₆)) E s' := by
  let c' : Cx := { c with g := freeze c ν s₂.heap }
  have gOk : ∀ b o, c.g b = some o → s₂.heap.get? b = some o := fun b o e => (F.froz b o e).1
  have hgw : ∀ b ∈ wr, c'.g b = none := fun b hb => by
    cases q : c'.g b with
    | none => rfl
    | some o =>
      rcases freeze_cases q with r | ⟨_, r, hs'⟩
      · rw [(K.wrOk b hb).2.2.1] at r; cases r
      · obtain ⟨o', ho', hf⟩ := K.fields 0 _ K.st b hb
        rw [(mask_some.mp r).2.2] at ho'; cases ho'
        exact (seq_not_fields hs' hf).elim
  have hfw : ∀ b ∈ wr, c'.s₀.heap.get? b = none ∧ c'.hL.get? b = none ∧ c'.g b = none := fun b hb => ⟨(K.wrOk b hb).1, (K.wrOk b hb).2.1, hgw b hb⟩
  obtain ⟨i, μ', ν', hile, rfl, hst', hJ, G'⟩ := h
  have G' : c'.F μ' ν' s' := G'
  by_cases hlt : i < ds.length
  · refine K.walks.item i s' _ _ hlt hst' fun v h₁ tk₁ hPv hst₁ hk₁ => ?_
    have G1 : c'.F μ' ν' { s' with heap := h₁, toks := tk₁ } := G'.iter hk₁ hfw (K.fields i _ hst') (K.fields (i + 1) _ hst₁)
    have hd : ds[i]? = some ds[i] := List.getElem?_eq_getElem hlt
    generalize ds[i] = d at hd
    have low2 : ∀ b o, mask c.H ν s₂.heap b = some o → Obj.isSeq o = true → c'.g b = some o := fun b o e q => freeze_mask (gOk b) e q
    have le₂ : SeqLe (mask c.H ν s₂.heap) (mask c.H ν' h₁) := by
      intro b o e q
      have hg : c'.g b = some o := low2 b o e q
      have hν' : ν' b = none := by
        cases r : ν' b with
        | none => rfl
        | some l => have := G'.frozM b l r; rw [hg] at this; cases this
      exact mask_some.mpr ⟨(mask_some.mp e).1, hν', (G1.froz b o hg).1⟩
    let g'' : View := pin c'.g wr h₁
    have G1' : FD { c with g := g'' } μ' ν' { s' with heap := h₁, toks := tk₁ } := FD.setG (c := c') G1 g'' (fun b o e => by
        by_cases hb : b ∈ wr
        · obtain ⟨o', ho', hf⟩ := K.fields (i + 1) _ hst₁ b hb
          have e' : h₁.get? b = some o := by simpa [g'', pin, hb] using e
          rw [ho'] at e'; cases e'
          exact ⟨ho', Or.inr hf⟩
        · exact G1.froz b o (by simpa [g'', pin, hb] using e)) (fun b l e => by
        by_cases hb : b ∈ wr
        · obtain ⟨o', ho', hf⟩ := K.fields (i + 1) _ hst₁ b hb
          obtain ⟨_, vs, ⟨n, hp⟩, _⟩ := G1.muts b l e
          have hp' : h₁.get? b = _ := hp
          rw [ho'] at hp'; cases hp'
          simp [Obj.isFields] at hf
        · show pin c'.g wr h₁ b = none
          simp only [pin, hb, if_false]; exact G1.frozM b l e)
    have low : ∀ b o, c'.g b = some o → g'' b = some o := fun b o e => by
      have hb : b ∉ wr := fun q => by rw [hgw b q] at e; cases e
      show pin c'.g wr h₁ b = some o
      simp only [pin, hb, if_false]; exact e
    refine ⟨i, d, μ', ν', g'', hd, hJ, G1', Rep.mono le₂ _ _ (K.vals i v d hPv hd), fun b o e => low b o ?_, fun b o e q => low b o (low2 b o e q), fun μ'' ν'' s₆ hJ' G6 => ?_⟩
    · show Mine.freeze c ν s₂.heap b = some o
      unfold Mine.freeze; rw [e]
    · have G7 : c'.F μ'' ν'' s₆ := FD.lessG (c := c') G6 low
      refine ⟨ds.length + 1 - (i + 1), by omega, i + 1, μ'', ν'', hlt, rfl, K.walks.frame _ _ _ hst₁ fun b hb o e => ?_, hJ', G7⟩
      by_cases q : b ∈ wr
      · exact (G6.froz b o (by show pin c'.g wr h₁ b = some o; simp only [pin, q, if_true]; exact e)).1
      · rcases K.fpOk b hb with r | ⟨o', ho', hs', hH, hν⟩ | ⟨o', ho', ht', hf'⟩
        · exact absurd r q
        · have hg : c'.g b = some o' := freeze_mask (gOk b) (mask_some.mpr ⟨hH, hν, ho'⟩) hs'
          have e2 : h₁.get? b = some o' := (G1.froz b o' hg).1
          rw [e2] at e; cases e
          exact (G7.froz b _ hg).1
        · have e2 : h₁.get? b = some o' := G1.lib.get b o' ht' ho'
          rw [e2] at e; cases e
          exact G7.lib.get b _ ht' ho'
  · have hi : i = ds.length := by omega
    subst hi
    refine K.walks.done s' _ _ hst' fun h₁ tk₁ hk₁ => ⟨μ', ν', hJ, ?_⟩
    have G1 : c'.F μ' ν' { s' with heap := h₁, toks := tk₁ } := G'.step hk₁ fun b hb => by
      obtain ⟨o, ho, hf⟩ := K.fields _ _ hst' b hb
      exact ⟨(K.wrOk b hb).1, (K.wrOk b hb).2.1, Or.inr (K.wrOk b hb).2.2.2, o, ho, Or.inl ⟨hf, hgw b hb⟩⟩
    exact FD.lessG (c := c) G1 fun b o e => by
      show Mine.freeze c ν s₂.heap b = some o
      unfold Mine.freeze; rw [e]
end Mine
end
section
open PySem PySem.W PyProof.Rows
set_option autoImplicit false
set_option maxRecDepth 100000
namespace Mine
variable {c : Cx} {μ : Vars} {ν : Muts}

/-- more may be changed -/
theorem FD.moreX {s : Shared} (F : c.F μ ν s) (X : Addr → Prop) (h : ∀ b, c.X b → X b) : FD { c with X := X } μ ν s where
  same := F.same
  keep := fun b o hb e => F.keep b o (fun q => hb (h b q)) e
  live := F.live
  lib := F.lib
  fn := F.fn
  hid := F.hid
  hidL := F.hidL
  mutH := F.mutH
  froz := F.froz
  frozM := F.frozM
  dom := F.dom
  newM := F.newM
  freshL := F.freshL
  freshC := F.freshC
  apart := F.apart
  vars := F.vars
  muts := F.muts

/-- the frame of a comprehension, with what may be changed in it -/
def Cx.compM (c : Cx) (ν : Muts) (scope : Scope) (s : Shared) (C : Addr) (X : Addr → Prop) : Cx :=
  { c.comp scope s C c.H (fun b => (ν b).isSome = true) with X := X }

/-- what stands behind a comprehension's loop, whatever it changed -/
structure CompFin (c : Cx) (μ : Vars) (ν : Muts) (scope : Scope) (s : Shared) (X : Addr → Prop) (Q : Muts → List D → Prop) (D' C : Addr) (s' : Shared) : Prop where
  fin : ∃ ν' out, Q ν' out ∧ ν' D' = none ∧ FD (c.compM ν scope s C X) (restr scope μ) (updM ν' D' out) s'
  newC : s.heap.get? C = none
  newD : s.heap.get? D' = none
  freeD : ν D' = none

theorem comp_block {e : Expr} {elt iter : Expr} {x : Str} {px : Pos} {ifs : List Expr} {gs : List Comprehension} {scope : Scope} {pos : Pos} {s s₂ : Shared} {I : Addr} {ds : List D} {fp wr : List Addr} {Pv : Nat → Value → Prop} {St : Nat → Heap → Prop}
    {RR : Value → Addr → Result → Shared → Prop} {E : Value → Shared → Prop} {Q : Muts → List D → Prop} (X : Addr → Prop)
    (F : c.F μ ν s) (K : IterOk c ν s s₂ I ds fp wr Pv St) (hok : compOk scope c.env = true) (he : e = .ListComp elt (⟨.Name x px, iter, ifs, 0⟩ :: gs) scope pos)
    (run : ∀ D' C s₄, ν D' = none → s.heap.get? D' = none → s.heap.get? C = none → c.hL.get? D' = none → ¬ c.H D' → c.g D' = none → FD (c.compM ν scope s C X) (restr scope μ) (updM ν D' []) s₄ → Iter (c.compM ν scope s C X) (updM ν D' []) s₄ I ds fp wr Pv St →
      codeAny c.M c.A (.compLoop e 0 (.ref I) (.ref D') (compFrame scope c.env C)) (fun r s' => r = .ok .next ∧ ∃ ν' out, Q ν' out ∧ ν' D' = none ∧ FD (c.compM ν scope s C X) (restr scope μ) (updM ν' D' out) s') s₄)
    (hRR : ∀ D' C s', CompFin c μ ν scope s X Q D' C s' → RR (.ref D') C (.ok .next) s') :
    wpAny c.M c.A (newList []) (fun acc s₃ =>
      wpAny c.M c.A (newFunctionEnv scope c.env.globals (closureOf c.env.cells scope.names []) [] c.env.qual none .none (some c.env)) (fun cenv s₄ =>
        codeAny c.M c.A (.compStart e 0 (.ref I) acc { cenv with scope := relabel scope c.env }) (RR acc cenv.locals) s₄) E s₃) E s₂ := by
  have F2 := F.keeps K.kp
  obtain ⟨f1, f2, f3, f4, f5⟩ := F2.fresh (Nat.le_refl s₂.heap.objs.size)
  have F3 := F2.newMut (l := []) (vs := #[]) (n := 0) (tk := s₂.toks) (by simp [Reps])
  refine wpAny_newObj_type (wpAny_compEnv ?_)
  have k3 : Kp s₂ { s₂ with heap := s₂.heap.push { cls := .type "list", data := .seq ([] : List Value).toArray } } := ⟨_, s₂.toks, rfl, fun _ _ e => Heap.get?_push_of_some _ e⟩
  have F4 := FD.comp (scope := scope) (N := fun b => (ν b).isSome = true) (fun a ha => by
      unfold updM
      split
      · rfl
      · exact ha) (fun a ha => by
      unfold updM at ha
      split at ha
      · rename_i q; rw [q]; exact Or.inr (K.kp.fresh (fresh_size (Nat.le_refl _)))
      · exact Or.inl ha) F3 (K.kp.trans k3) hok
  have hD0 : s.heap.get? s₂.heap.objs.size = none := K.kp.fresh (fresh_size (Nat.le_refl _))
  have hst4 : St 0 (pushCells ((s₂.heap.push { cls := .type "list", data := .seq ([] : List Value).toArray }).push { cls := .type "dict", data := .dict #[] }) scope.names) :=
    K.walks.frame _ _ _ K.st fun b _ o e => pushCells_keeps _ _ b o (Heap.get?_push_of_some _ (Heap.get?_push_of_some _ e))
  have k4 : Kp s₂ { s₂ with heap := pushCells ((s₂.heap.push { cls := .type "list", data := .seq ([] : List Value).toArray }).push { cls := .type "dict", data := .dict #[] }) scope.names } :=
    ⟨_, s₂.toks, rfl, fun b o e => pushCells_keeps _ _ b o (Heap.get?_push_of_some _ (Heap.get?_push_of_some _ e))⟩
  have hC0 : s.heap.get? (s₂.heap.push { cls := .type "list", data := .seq ([] : List Value).toArray }).objs.size = none :=
    (K.kp.trans k3).fresh (fresh_size (Nat.le_refl _))
  generalize hH3 : s₂.heap.push { cls := .type "list", data := .seq ([] : List Value).toArray } = H3 at *
  generalize hD : s₂.heap.objs.size = D' at *
  have F5 : FD (c.compM ν scope s H3.objs.size X) (restr scope μ) (updM ν D' []) { s₂ with heap := pushCells (H3.push { cls := .type "dict", data := .dict #[] }) scope.names } := FD.moreX F4 X fun _ q => q.elim
  have I5 : Iter (c.compM ν scope s H3.objs.size X) (updM ν D' []) { s₂ with heap := pushCells (H3.push { cls := .type "dict", data := .dict #[] }) scope.names } I ds fp wr Pv St := by
    have KI := K.iter F
    exact {
      walks := K.walks
      st := hst4
      fpOk := fun b hb => (K.fpOk b hb).imp id (Or.imp (fun ⟨o, h1, h2, h3, h4⟩ => ⟨o, k4.get b o h1, h2, h3, by
        unfold updM
        have : b ≠ D' := by rintro rfl; rw [← hD] at h1; exact absurd (Heap.lt_size h1) (Nat.lt_irrefl _)
        simp only [this, if_false]; exact h4⟩) id)
      wrOk := fun b hb => ⟨K.wrOk b hb, (KI.wrOk b hb).2⟩
      fields := K.fields
      vals := fun i v d hv hd => by
        refine Rep.mono ?_ _ _ (K.vals i v d hv hd)
        intro b o e q
        rw [mask_some] at e ⊢
        refine ⟨e.1, ?_, k4.get b o e.2.2⟩
        unfold updM
        have : b ≠ D' := by rintro rfl; rw [← hD] at e; exact absurd (Heap.lt_size e.2.2) (Nat.lt_irrefl _)
        simp only [this, if_false]; exact e.2.1 }
  have G4 := codeAny_mono (run D' H3.objs.size _ f3 hD0 hC0 f1 f5 f4 F5 I5) fun r s' (h : r = .ok .next ∧ _) => by
    obtain ⟨rfl, h⟩ := h
    exact (hRR D' H3.objs.size s' ⟨h, hC0, hD0, f3⟩ : RR (.ref D') H3.objs.size (.ok .next) s')
  subst he
  exact codeAny_compStart_list G4 (K.walks.self 0 _ _ _ hst4 G4)

theorem FD.unhide {s : Shared} {D' : Addr} {out : List D} {vs : Array Value} (F : FD { c with H := fun a => c.H a ∨ a = D' } μ ν s) (hn : ν D' = none) (hp : s.heap.PlainList D' vs) (hr : Reps (mask (fun a => c.H a ∨ a = D') ν s.heap) out vs.toList)
    (hDL : c.hL.get? D' = none) (hg : c.g D' = none) (hnew : c.s₀.heap.get? D' = none) (hDH : ¬ c.H D') : c.F μ (updM ν D' out) s where
  same := F.same
  keep := F.keep
  live := F.live
  lib := F.lib
  fn := F.fn
  hid := fun a ha => F.hid a (Or.inl ha)
  hidL := fun a ha => F.hidL a (Or.inl ha)
  mutH := fun a ha q => by
    unfold updM at ha
    split at ha
    · rename_i r; exact hDH (r ▸ q)
    · exact F.mutH a ha (Or.inl q)
  froz := F.froz
  frozM := fun a l e => by
    unfold updM at e
    by_cases q : a = D'
    · subst q; exact hg
    · simp only [q, if_false] at e; exact F.frozM a l e
  dom := fun a ha => by
    unfold updM
    split
    · rfl
    · exact F.dom a ha
  newM := fun a ha => by
    unfold updM at ha
    split at ha
    · rename_i q; rw [q]; exact Or.inr hnew
    · exact F.newM a ha
  freshL := F.freshL
  freshC := F.freshC
  apart := F.apart
  vars := by
    obtain ⟨m, cm, hn', hc, hv⟩ := F.vars
    refine ⟨m, cm, hn', hc, fun x d e => ?_⟩
    obtain ⟨v, hr', hw⟩ := hv x d e
    exact ⟨v, by rw [mask_known hn]; exact hr', hw⟩
  muts := fun a l e => by
    unfold updM at e
    by_cases q : a = D'
    · subst q
      simp only [if_true] at e; cases e
      exact ⟨hDL, vs, hp, by rw [mask_known hn]; exact hr⟩
    · simp only [q, if_false] at e
      obtain ⟨h1, us, h2, h3⟩ := F.muts a l e
      exact ⟨h1, us, h2, by rw [mask_known hn]; exact h3⟩

/-- the element is worked out and appended -/
theorem emit {cL : Cx} {g : View} {μ₁ : Vars} {s : Shared} {D' : Addr} {out : List D} {elt : Expr} {E : Value → Shared → Prop} {Q : Muts → D → Prop} (F : FD { cL with g := g } μ₁ (updM ν D' out) s) (hD : ν D' = none) (hDs : cL.s₀.heap.get? D' = none)
    (hDN : ¬ cL.N D') (hlen : out.length < 16777216) (he : ∀ g', EvM { cL with g := g', H := fun a => cL.H a ∨ a = D' } μ₁ ν elt Q) :
    wpAny cL.M cL.A (eval elt cL.env) (fun y s₁ => wpAny cL.M cL.A (call (.builtin "list.append") [.ref D', y]) (fun _ s₂ => ∃ ν' d, Q ν' d ∧ ν' D' = none ∧ FD { cL with g := g } μ₁ (updM ν' D' (out ++ [d])) s₂) E s₁) E s := by
  have FH : FD { cL with g := g, H := fun a => cL.H a ∨ a = D' } μ₁ ν s := FD.hideKnown (c := { cL with g := g }) F hD hDN
  let cH : Cx := { cL with g := g, H := fun a => cL.H a ∨ a = D' }
  obtain ⟨hDL, vs, ⟨nn, hp⟩, hr⟩ := F.muts D' _ updM_self
  have hgD : g D' = none := F.frozM D' _ updM_self
  let g' : View := pin (freeze cH ν s.heap) [D'] s.heap
  have FG : FD { cH with g := g' } μ₁ ν s := FD.setG (c := cH) FH g' (fun a o e => by
      by_cases q : a = D'
      · subst q
        have e' : s.heap.get? a = some o := by simpa [g', pin] using e
        rw [hp] at e'; cases e'
        exact ⟨hp, Or.inl rfl⟩
      · exact FH.freeze.froz a o (by simpa [g', pin, q] using e)) (fun a l e => by
      by_cases q : a = D'
      · subst q; rw [hD] at e; cases e
      · have := FH.freeze.frozM a l e
        simpa [g', pin, q] using this)
  refine wpAny_mono (he g' s E FG) (fun y s₁ h₁ => ?_) fun _ _ e => e
  obtain ⟨ν', d, hQ, F1, hy⟩ := h₁
  have hgg : g' D' = some { cls := .type "list", data := .seq vs nn } := by
    show pin _ _ _ D' = _
    simp only [pin, List.mem_singleton, if_true]; exact hp
  have hn' : ν' D' = none := by
    cases q : ν' D' with
    | none => rfl
    | some l => have := F1.frozM D' l q; have e2 : g' D' = none := this; rw [hgg] at e2; cases e2
  have hp1 : s₁.heap.get? D' = some { cls := .type "list", data := .seq vs nn } := (F1.froz D' _ hgg).1
  have le : SeqLe (mask cH.H ν s.heap) (mask cH.H ν' s₁.heap) := by
    intro b o e q
    have hb : b ≠ D' := by rintro rfl; exact (mask_some.mp e).1 (Or.inr rfl)
    have hgb : g' b = some o := by
      have := freeze_mask (c := cH) (fun o' e' => (FH.froz b o' e').1) e q
      simp only [g', pin, List.mem_singleton, hb, if_false]; exact this
    refine mask_some.mpr ⟨(mask_some.mp e).1, ?_, (F1.froz b o hgb).1⟩
    cases q : ν' b with
    | none => rfl
    | some l => have := F1.frozM b l q; have e2 : g' b = none := this; rw [hgb] at e2; cases e2
  have F2 : FD cH μ₁ ν' s₁ := FD.lessG (c := cH) F1 fun b o e => by
    have e2 : g b = some o := e
    have hb : b ≠ D' := by rintro rfl; rw [hgD] at e2; cases e2
    show pin _ _ _ b = _
    simp only [pin, List.mem_singleton, hb, if_false]
    have : Mine.freeze cH ν s.heap b = some o := by
      unfold Mine.freeze
      rw [show cH.g b = some o from e2]
    exact this
  have hr' : Reps (mask cH.H ν s.heap) out vs.toList := by rw [mask_known hD] at hr; exact hr
  have F3 : FD { cL with g := g } μ₁ (updM ν' D' out) s₁ := FD.unhide (c := { cL with g := g }) F2 hn' ⟨nn, hp1⟩ (Reps.mono le _ _ hr') hDL hgD hDs (F.mutH D' (by rw [updM_self]; rfl))
  refine FD.append F3 updM_self (Or.inr hDs) (d := d) (by rw [mask_known hn']; exact hy) hlen fun s₂ F4 => ⟨ν', d, hQ, hn', ?_⟩
  have e0 : updM (updM ν' D' out) D' (out ++ [d]) = updM ν' D' (out ++ [d]) := by
    funext b; unfold updM; split <;> rfl
  rw [e0] at F4; exact F4

/-- the loop of a clause that emits -/
def CompRule (prog : Program) (w : World) (A : Around) (e : Expr) (dep : Nat) (it acc : Value) (env : Env) (x : Str) (px : Pos) (ifs : List Expr) (elt : Expr) : Prop :=
  ∀ (R : Result → Shared → Prop) (I : Nat → Shared → Prop),
    (∀ n s, I n s → wpAny (model prog w) A (pyNext it) (fun r s₁ => match r with
      | none => R (.ok .next) s₁
      | some v => wpAny (model prog w) A (assign (.Name x px) env v) (fun _ s₂ =>
          wpAny (model prog w) A (forIn ifs true fun c r => if r = true then do let ok ← isTrue c env (eval c env); pure (ForInStep.yield ok) else pure (ForInStep.yield r)) (fun ok s₃ =>
            if ok = true then wpAny (model prog w) A (eval elt env) (fun x s₄ =>
              wpAny (model prog w) A (call (.builtin "list.append") [acc, x]) (fun _ s₅ => ∃ m, m < n ∧ I m s₅) (notedBy (model prog w) A env fun e s' => R (.error e) s') s₄) (notedBy (model prog w) A env fun e s' => R (.error e) s') s₃
            else ∃ m, m < n ∧ I m s₃) (notedBy (model prog w) A env fun e s' => R (.error e) s') s₂) (notedBy (model prog w) A env fun e s' => R (.error e) s') s₁) (notedBy (model prog w) A env fun e s' => R (.error e) s') s) →
    ∀ n s, I n s → codeAny (model prog w) A (.compLoop e dep it acc env) R s

theorem comp_rule1 {prog : Program} {w : World} {A : Around} {elt iter : Expr} {x : Str} {px : Pos} {ifs : List Expr} {scope : Scope} {pos : Pos} {it acc : Value} {env : Env} :
    CompRule prog w A (.ListComp elt [⟨.Name x px, iter, ifs, 0⟩] scope pos) 0 it acc env x px ifs elt := fun _ I turn n _ h => codeAny_compLoop_tests I turn n h

/-- one clause -/
theorem comp_run1 {cL : Cx} {μ₀ : Vars} {e : Expr} {dep : Nat} {elt : Expr} {x : Str} {px : Pos} {ifs : List Expr} {s₄ : Shared} {I D' : Addr} {ds : List D} {fp wr : List Addr} {Pv : Nat → Value → Prop} {St : Nat → Heap → Prop}
    {Q : Nat → Muts → List D → Prop} {out₀ : List D} (hx : Own cL x) (hμ : μ₀ x = none) (F : FD cL μ₀ (updM ν D' out₀) s₄) (K : Iter cL (updM ν D' out₀) s₄ I ds fp wr Pv St) (hD : ν D' = none) (hDs : cL.s₀.heap.get? D' = none) (hDN : ¬ cL.N D')
    (h0 : Q 0 ν out₀) (hQl : ∀ i ν' out, i < ds.length → Q i ν' out → out.length < 16777216)
    (rule : CompRule cL.prog cL.w cL.A e dep (.ref I) (.ref D') cL.env x px ifs elt)
    (turn : ∀ g i d ν' out, ds[i]? = some d → Q i ν' out → ν' D' = none →
      ∃ b, EvT { cL with g := g, H := fun a => cL.H a ∨ a = D' } (upd μ₀ x d) ν' ifs b ∧ (b = false → Q (i + 1) ν' out) ∧
        (b = true → ∀ g, EvM { cL with g := g, H := fun a => cL.H a ∨ a = D' } (upd μ₀ x d) ν' elt (fun ν'' y => Q (i + 1) ν'' (out ++ [y])))) :
    codeAny cL.M cL.A (.compLoop e dep (.ref I) (.ref D') cL.env) (fun r s' => r = .ok .next ∧ ∃ ν' out, Q ds.length ν' out ∧ ν' D' = none ∧ FD cL μ₀ (updM ν' D' out) s') s₄ := by
  refine rule _ (Between cL (freeze cL (updM ν D' out₀) s₄.heap) (fun i μ' ν₁ => ∃ ν' out, μ₀ = μ' ∧ ν₁ = updM ν' D' out ∧ ν' D' = none ∧ Q i ν' out) ds St) ?_ (ds.length + 1) _
    (K.start F ⟨ν, out₀, rfl, rfl, hD, h0⟩)
  intro n s' hI
  refine wpAny_mono (K.turn F n s' hI) (fun r s₁ h₁ => ?_) fun _ _ e => e
  cases r with
  | none =>
    obtain ⟨_, _, ⟨ν', out, rfl, rfl, hn, hq⟩, F'⟩ := h₁
    exact ⟨rfl, ν', out, hq, hn, F'⟩
  | some v =>
    obtain ⟨i, d, _, _, g, hd, ⟨ν', out, rfl, rfl, hn, hq⟩, F', hv, hg1, hg2, step⟩ := h₁
    obtain ⟨b, ht, hf, hT⟩ := turn g i d ν' out hd hq hn
    have hi : i < ds.length := (List.getElem?_eq_some_iff.mp hd).1
    refine wpAny_assign_Name (FD.store (c := { cL with g := g }) (d := d) F' hx hv fun s₂ F2 _ => ?_)
    have FH : FD { cL with g := g, H := fun a => cL.H a ∨ a = D' } (upd μ₀ x d) ν' s₂ := FD.hideKnown (c := { cL with g := g }) F2 hn hDN
    refine wpAny_mono (ht s₂ _ FH) (fun ok s₃ h₃ => ?_) fun _ _ e => e
    obtain ⟨k3, rfl⟩ := h₃
    have F3 := F2.keeps k3
    cases ok with
    | false =>
      simp only [Bool.false_eq_true, if_false]
      exact step _ _ _ ⟨ν', out, rfl, rfl, hn, hf rfl⟩ (F3.weaken (weaken_own hμ))
    | true =>
      simp only [if_true]
      refine wpAny_mono (emit F3 hn hDs hDN (hQl _ _ _ hi hq) (hT rfl)) (fun y s₄ h₄ => wpAny_mono h₄ (fun _ s₅ h₅ => ?_) fun _ _ e => e) fun _ _ e => e
      obtain ⟨ν'', d', hq', hn', F5⟩ := h₅
      exact step _ _ _ ⟨ν'', _, rfl, rfl, hn', hq'⟩ (F5.weaken (weaken_own hμ))

/-- the expression, asked for its iterator, hands out ds; known lists may change -/
def EvIM (c : Cx) (μ : Vars) (ν : Muts) (iter : Expr) (Q : Muts → List D → Prop) : Prop :=
  ∀ s E, c.F μ ν s → wpAny c.M c.A (eval iter c.env) (fun xv s' => wpAny c.M c.A (pyIter xv) (fun it s₂ => ∃ ν' ds s₁ I fp wr Pv St, Q ν' ds ∧ it = .ref I ∧ c.F μ ν' s₁ ∧ IterOk c ν' s₁ s₂ I ds fp wr Pv St) E s') E s
theorem EvIM.ofEvI {iter : Expr} {ds : List D} {Q : Muts → List D → Prop} (h : EvI c μ ν iter ds) (q : Q ν ds) : EvIM c μ ν iter Q := fun s E F =>
  wpAny_mono (h s E F) (fun xv s' h' => wpAny_mono h' (fun it s₂ h₂ => by
    obtain ⟨I, fp, wr, Pv, St, e, K⟩ := h₂
    exact ⟨ν, ds, s, I, fp, wr, Pv, St, q, e, F, K⟩) fun _ _ e => e) fun _ _ e => e

/-- known lists that are ours -/
def ours (c : Cx) (ν : Muts) : Addr → Prop := fun b => (ν b).isSome = true ∧ (c.X b ∨ c.s₀.heap.get? b = none)

theorem CompFin.back {scope : Scope} {s s' : Shared} {Q : Muts → List D → Prop} {D' C : Addr} (F : c.F μ ν s) (K : CompFin c μ ν scope s (ours c ν) Q D' C s') :
    ∃ ν' out, Q ν' out ∧ ν' D' = none ∧ c.F μ (updM ν' D' out) s' ∧ ∃ m, s'.heap.Ns C m := by
  obtain ⟨ν', out, hq, hn, F'⟩ := K.fin
  refine ⟨ν', out, hq, hn, F.back (X := ours c ν) (Eff.of (c' := c.compM ν scope s C (ours c ν)) F' rfl fun b => Iff.rfl) fun b hb => Or.inl hb, ?_⟩
  obtain ⟨m, _, hm, _⟩ := F'.vars
  exact ⟨m, hm⟩

theorem FD.letC {s s' : Shared} {μ' : Vars} {ν' : Muts} {C : Addr} {m : Str → Option Value} {h' : Heap} (F : c.F μ ν s) (hC : s.heap.get? C = none) (hn : s'.heap.Ns C m) (hs : Heap.SameBut C s'.heap h') (F'' : c.F μ' ν' s') : c.F μ' ν' { s' with heap := h' } := by
  have hCL : C ≠ c.env.locals := by
    rintro rfl
    obtain ⟨m', _, hn', _⟩ := F.vars
    obtain ⟨o, _, _, ho, _⟩ := hn'
    rw [hC] at ho; cases ho
  obtain ⟨o, _, _, ho, hd, _⟩ := hn
  refine F''.step (wr := [C]) (fun b o' hb e => hs.extBut b o' (fun q => hb (by simp [q])) e) fun b hb => ?_
  simp only [List.mem_cons, List.not_mem_nil, or_false] at hb
  subst hb
  refine ⟨?_, F.lib.fresh hC, ?_, o, ho, Or.inr (Or.inr ⟨by simp [Obj.isDict, hd], hCL⟩)⟩
  · cases q : c.s₀.heap.get? b with
    | none => rfl
    | some o' => have := F.live b o' q; rw [hC] at this; cases this
  · refine Or.inr ⟨fun q => ?_, fun q => ?_⟩
    · have := F.hid b q; rw [hC] at this; cases this
    · have := F.lib.tab b q; rw [hC] at this; cases this

/-- what a turn of a comprehension is to bring -/
def TurnOk (c : Cx) (μ : Vars) (ν : Muts) (x : Str) (ifs : List Expr) (elt : Expr) (scope : Scope) (Q : Nat → Muts → List D → Prop) (ds : List D) : Prop :=
  ∀ (s : Shared) (C : Addr) (H : Addr → Prop) (g : View) (i : Nat) (d : D) (ν' : Muts) (out : List D), (∀ b, (ν' b).isSome = true → ¬ c.H b → ¬ H b) → ds[i]? = some d → Q i ν' out →
      ∃ b, EvT { c.compM ν scope s C (ours c ν) with g := g, H := H } (upd (restr scope μ) x d) ν' ifs b ∧ (b = false → Q (i + 1) ν' out) ∧
        (b = true → ∀ g, EvM { c.compM ν scope s C (ours c ν) with g := g, H := H } (upd (restr scope μ) x d) ν' elt (fun ν'' y => Q (i + 1) ν'' (out ++ [y])))

theorem comp_all {elt iter : Expr} {x : Str} {px : Pos} {ifs : List Expr} {scope : Scope} {pos : Pos} {QI : Muts → List D → Prop} {RR : Value → Addr → Result → Shared → Prop} {s : Shared} {E : Value → Shared → Prop} (J : Muts → List D → Nat → Muts → List D → Prop)
    (F : c.F μ ν s) (hi : EvIM c μ ν iter QI) (hok : compOk scope c.env = true) (hx : scope.names.lookup x = some .local ∨ scope.names.lookup x = some .cell)
    (hJ : ∀ ν₁ ds, QI ν₁ ds → ds.length < 16777216 ∧ J ν₁ ds 0 ν₁ [] ∧ (∀ i ν' out, J ν₁ ds i ν' out → out.length ≤ i) ∧ TurnOk c μ ν₁ x ifs elt scope (J ν₁ ds) ds)
    (hRR : ∀ ν₁ ds s₁ D' C s', QI ν₁ ds → c.F μ ν₁ s₁ → CompFin c μ ν₁ scope s₁ (ours c ν₁) (J ν₁ ds ds.length) D' C s' → RR (.ref D') C (.ok .next) s') :
    wpAny c.M c.A (eval iter c.env) (fun x₁ s₁ => wpAny c.M c.A (pyIter x₁) (fun it s₂ => wpAny c.M c.A (newList []) (fun acc s₃ =>
      wpAny c.M c.A (newFunctionEnv scope c.env.globals (closureOf c.env.cells scope.names []) [] c.env.qual none .none (some c.env)) (fun cenv s₄ =>
        codeAny c.M c.A (.compStart (.ListComp elt [⟨.Name x px, iter, ifs, 0⟩] scope pos) 0 it acc { cenv with scope := relabel scope c.env }) (RR acc cenv.locals) s₄) E s₃) E s₂) E s₁) E s := by
  refine wpAny_mono (hi s E F) (fun xv s' h₁ => wpAny_mono h₁ (fun it s₂ h₂ => ?_) fun _ _ e => e) fun _ _ e => e
  obtain ⟨ν₁, ds, s₁, I, fp, wr, Pv, St, hq, rfl, F1, K⟩ := h₂
  obtain ⟨h1, h2, h3, h4⟩ := hJ ν₁ ds hq
  refine comp_block (ours c ν₁) F1 K hok rfl (fun D' C s₄ d1 d2 d3 d4 d5 d6 F4 I4 => ?_) fun D' C s' fin => hRR ν₁ ds s₁ D' C s' hq F1 fin
  refine comp_run1 (cL := c.compM ν₁ scope s₁ C (ours c ν₁)) (own_comp (c := c) (s := s₁) (C := C) (H := c.H) (N := fun b => (ν₁ b).isSome = true) hx) (restr_own hx) F4 I4 d1 d2 (by show ¬ (ν₁ D').isSome = true; rw [d1]; simp) h2 (fun i ν' out hi q => by have := h3 _ _ _ q; omega) comp_rule1 fun g i d ν' out hd hJ' hn => ?_
  exact h4 s₁ C (fun a => c.H a ∨ a = D') g i d ν' out (fun b hb hH => by
    rintro (q | q)
    · exact hH q
    · subst q; rw [hn] at hb; cases hb) hd hJ'

/-- the same, stored under a name, on its own line -/
theorem Ex.assignCompM {elt iter : Expr} {x y : Str} {px py : Pos} {ifs : List Expr} {scope : Scope} {pos spos : Pos} {QI : Muts → List D → Prop} {rest : List Stmt} {P : Flow → Shared → Prop} {E : Value → Shared → Prop} (J : Muts → List D → Nat → Muts → List D → Prop)
    (hi : EvIM c μ ν iter QI) (hok : compOk scope c.env = true) (hx : scope.names.lookup x = some .local ∨ scope.names.lookup x = some .cell) (hy : Own c y)
    (hJ : ∀ ν₁ ds, QI ν₁ ds → ds.length < 16777216 ∧ J ν₁ ds 0 ν₁ [] ∧ (∀ i ν' out, J ν₁ ds i ν' out → out.length ≤ i) ∧ TurnOk c μ ν₁ x ifs elt scope (J ν₁ ds) ds)
    (hr : ∀ ν₁ ds ν' out a, QI ν₁ ds → J ν₁ ds ds.length ν' out → ν' a = none → ν₁ a = none → Ex c (upd μ y (.val (.ref a))) (updM ν' a out) rest P E)
    (hsw : swapsWith (.ListComp elt [⟨.Name x px, iter, ifs, 0⟩] scope pos) (some (.Name y py)) spos.line c.env = pure true := by rfl)
    (hs : ∀ v, foldedSetIterable iter c.env v = pure v := by intro _; rfl) :
    Ex c μ ν (.Assign [.Name y py] (.ListComp elt [⟨.Name x px, iter, ifs, 0⟩] scope pos) spos :: rest) P E := by
  refine Ex.cons fun s F => ?_
  rw [exec_Assign_Name_used _ _ _ _ hsw]
  refine wpAny_bind (wpAny_standAt (wpAny_bind ?_))
  show wpAny _ c.A (do let _ ← comprehension (.ListComp elt [⟨.Name x px, iter, ifs, 0⟩] scope pos) scope c.env _ (newList []) false (eval iter c.env) (some (PySem.assign (.Name y py) c.env))) _ _ s
  refine wpAny_bind (wpAny_mono (wpAny_comprehension_free (use := some (PySem.assign (.Name y py) c.env)) (Q := fun _ s' => thenP c rest P E .next s') rfl hs (closureFor_eq (compOk.all hok)) (compOk.kind hok) (compOk.names hok) ?_) (fun _ s' hq => wpAny_pure (wpAny_pure hq)) fun _ _ e => e)
  refine comp_all (RR := fun acc C => compPost c.M c.A E (some (PySem.assign (.Name y py) c.env)) (fun _ s' => thenP c rest P E .next s') acc C) J F hi hok hx hJ fun ν₁ ds s₁ D' C s' hq F1 K => ?_
  obtain ⟨ν', out, hJ', hn, F', m, hm⟩ := K.back F1
  show wpAny c.M c.A (PySem.assign (.Name y py) c.env (.ref D')) _ E s'
  refine wpAny_assign_Name (FD.store F' hy (d := .val (.ref D')) rfl fun s'' G st => ?_)
  have hCL : C ≠ c.env.locals := by
    rintro rfl
    obtain ⟨m', _, hn', _⟩ := F1.vars
    obtain ⟨o, _, _, ho, _⟩ := hn'
    rw [K.newC] at ho; cases ho
  have hn'' : s''.heap.Ns C m := hm.at' fun o e => by
    obtain ⟨o', _, _, ho', hd', _⟩ := hm
    rw [ho'] at e; cases e
    exact st.other C _ ho' hCL (by simp [Obj.isCell, hd'])
  exact ⟨m, hn'', fun h' hs' => hr ν₁ ds ν' out D' hq hJ' hn K.freeD _ (F1.letC K.newC hn'' hs' G)⟩
end Mine
end
section
open PySem PySem.W PyProof.Rows
set_option autoImplicit false
set_option maxRecDepth 100000
namespace Mine

section
variable {prog : Program} {w : World} {A : Around} {R : Result → Shared → Prop} {s : Shared}

theorem compTurn_two0 (elt t1 i1 : Expr) (f1 : List Expr) (t2 i2 : Expr) (f2 : List Expr) (scope : Scope) (pos : Pos) (it acc : Value) (env : Env) :
    compTurn (.ListComp elt [⟨t1, i1, f1, 0⟩, ⟨t2, i2, f2, 0⟩] scope pos) 0 it acc env = (do
      standAt i1.pos
      match ← pyNext it with
      | none => pure (.done .next)
      | some v =>
        letOwnedTupleGo t1 it v
        PySem.assign t1 env v
        let mut ok := true
        for c in f1 do
          if ok then ok ← isTrue c env (eval c env)
        if ok then
          let x ← eval i2 env
          standAt i2.pos
          let x ← foldedSetIterable i2 env x
          let _ ← runOwn (.compStart (.ListComp elt [⟨t1, i1, f1, 0⟩, ⟨t2, i2, f2, 0⟩] scope pos) 1 (← holding [x] (pyIter x)) acc env) env
        again (.compLoop (.ListComp elt [⟨t1, i1, f1, 0⟩, ⟨t2, i2, f2, 0⟩] scope pos) 0 it acc env)) := by rfl

theorem compTurn_two1 (elt t1 i1 : Expr) (f1 : List Expr) (t2 i2 : Expr) (f2 : List Expr) (scope : Scope) (pos : Pos) (it acc : Value) (env : Env) :
    compTurn (.ListComp elt [⟨t1, i1, f1, 0⟩, ⟨t2, i2, f2, 0⟩] scope pos) 1 it acc env = (do
      standAt i2.pos
      match ← pyNext it with
      | none => pure (.done .next)
      | some v =>
        letOwnedTupleGo t2 it v
        PySem.assign t2 env v
        let mut ok := true
        for c in f2 do
          if ok then ok ← isTrue c env (eval c env)
        if ok then
          (do let _ ← call (.builtin "list.append") [acc, ← eval elt env])
        again (.compLoop (.ListComp elt [⟨t1, i1, f1, 0⟩, ⟨t2, i2, f2, 0⟩] scope pos) 1 it acc env)) := by rfl

theorem comp_rule2 {elt t1 i1 i2 : Expr} {f1 f2 : List Expr} {x : Str} {px : Pos} {scope : Scope} {pos : Pos} {it acc : Value} {env : Env} :
    CompRule prog w A (.ListComp elt [⟨t1, i1, f1, 0⟩, ⟨.Name x px, i2, f2, 0⟩] scope pos) 1 it acc env x px f2 elt := by
  intro R I turn n s h
  refine codeAny_loop rfl I (fun n s hI => ?_) n h
  show wpAny _ A ((compTurn (.ListComp elt [⟨t1, i1, f1, 0⟩, ⟨.Name x px, i2, f2, 0⟩] scope pos) 1 it acc env).onRaise (fun x => do noteFrame x env; theTreesLotGoes x)) _ _ s
  refine wpAny_noted ?_
  rw [compTurn_two1]
  refine wpAny_bind (wpAny_standAt (wpAny_bind (wpAny_mono (turn n s hI) (fun r s₁ h₁ => ?_) fun _ _ h' => h')))
  cases r with
  | none => exact wpAny_pure h₁
  | some v =>
    refine wpAny_bind (wpAny_of_eq (rfl : letOwnedTupleGo (.Name x px) it v = pure ()) ?_)
    refine wpAny_bind (wpAny_mono h₁ (fun _ s₂ h₂ => wpAny_bind (wpAny_mono h₂ (fun ok s₃ h₃ => ?_) fun _ _ h' => h')) fun _ _ h' => h')
    cases ok with
    | false => exact wpAny_pure ⟨rfl, h₃⟩
    | true =>
      exact wpAny_bind (wpAny_bind (wpAny_mono h₃ (fun x s₄ h₄ => wpAny_bind (wpAny_mono h₄ (fun _ s₅ h₅ => wpAny_pure (wpAny_pure ⟨rfl, h₅⟩)) fun _ _ h' => h')) fun _ _ h' => h'))

theorem codeAny_compLoop_two {elt i1 t2 i2 : Expr} {f1 f2 : List Expr} {x : Str} {px : Pos} {scope : Scope} {pos : Pos} {it acc : Value} {env : Env} (I : Nat → Shared → Prop)
    (turn : ∀ n s, I n s → wpAny (model prog w) A (pyNext it) (fun r s₁ => match r with
      | none => R (.ok .next) s₁
      | some v => wpAny (model prog w) A (PySem.assign (.Name x px) env v) (fun _ s₂ =>
          wpAny (model prog w) A (forIn f1 true fun c r => if r = true then do let ok ← isTrue c env (eval c env); pure (ForInStep.yield ok) else pure (ForInStep.yield r)) (fun ok s₃ =>
            if ok = true then wpAny (model prog w) A (eval i2 env) (fun xv s₄ =>
              wpAny (model prog w) A (pyIter xv) (fun it' s₅ => codeAny (model prog w) A (.compLoop (.ListComp elt [⟨.Name x px, i1, f1, 0⟩, ⟨t2, i2, f2, 0⟩] scope pos) 1 it' acc env) (fun r s₆ => r = .ok .next ∧ ∃ m, m < n ∧ I m s₆) s₅ ∧
                ∀ E, wpAny (model prog w) A (pyIter it') (fun it'' s₆ => it'' = it' ∧ s₆ = s₅) E s₅)
                (notedBy (model prog w) A env fun e s' => R (.error e) s') s₄) (notedBy (model prog w) A env fun e s' => R (.error e) s') s₃
            else ∃ m, m < n ∧ I m s₃) (notedBy (model prog w) A env fun e s' => R (.error e) s') s₂) (notedBy (model prog w) A env fun e s' => R (.error e) s') s₁) (notedBy (model prog w) A env fun e s' => R (.error e) s') s)
    (n : Nat) (h : I n s) (hs : ∀ v, foldedSetIterable i2 env v = pure v) :
    codeAny (model prog w) A (.compLoop (.ListComp elt [⟨.Name x px, i1, f1, 0⟩, ⟨t2, i2, f2, 0⟩] scope pos) 0 it acc env) R s := by
  refine codeAny_loop rfl I (fun n s hI => ?_) n h
  show wpAny _ A ((compTurn (.ListComp elt [⟨.Name x px, i1, f1, 0⟩, ⟨t2, i2, f2, 0⟩] scope pos) 0 it acc env).onRaise (fun x => do noteFrame x env; theTreesLotGoes x)) _ _ s
  refine wpAny_noted ?_
  rw [compTurn_two0]
  refine wpAny_bind (wpAny_standAt (wpAny_bind (wpAny_mono (turn n s hI) (fun r s₁ h₁ => ?_) fun _ _ h' => h')))
  cases r with
  | none => exact wpAny_pure h₁
  | some v =>
    refine wpAny_bind (wpAny_of_eq (rfl : letOwnedTupleGo (.Name x px) it v = pure ()) ?_)
    refine wpAny_bind (wpAny_mono h₁ (fun _ s₂ h₂ => wpAny_bind (wpAny_mono h₂ (fun ok s₃ h₃ => ?_) fun _ _ h' => h')) fun _ _ h' => h')
    cases ok with
    | false => exact wpAny_pure ⟨rfl, h₃⟩
    | true =>
      simp only [if_true] at h₃ ⊢
      refine wpAny_bind (wpAny_mono h₃ (fun xv s₄ h₄ => wpAny_bind (wpAny_standAt (wpAny_bind (wpAny_of_eq (hs xv) ?_)))) fun _ _ h' => h')
      refine wpAny_bind (wpAny_holding (wpAny_mono h₄ (fun it' s₅ h₅ => ?_) fun _ _ h' => h'))
      obtain ⟨hc, hself⟩ := h₅
      refine wpAny_bind (wpAny_runOwn ?_)
      have fin : codeAny (model prog w) A (.compLoop (.ListComp elt [⟨.Name x px, i1, f1, 0⟩, ⟨t2, i2, f2, 0⟩] scope pos) 1 it' acc env)
          (fun r s' => match r with
            | .ok _ => wpAny (model prog w) A (again (.compLoop (.ListComp elt [⟨.Name x px, i1, f1, 0⟩, ⟨t2, i2, f2, 0⟩] scope pos) 0 it acc env)) (fun fin s' => match fin with
              | .done f => R (.ok f) s'
              | .again c' => c' = (Code.compLoop (.ListComp elt [⟨.Name x px, i1, f1, 0⟩, ⟨t2, i2, f2, 0⟩] scope pos) 0 it acc env) ∧ ∃ m, m < n ∧ I m s') (notedBy (model prog w) A env fun e s' => R (.error e) s') s'
            | .error e => cameBackBy (model prog w) A env (notedBy (model prog w) A env fun e s' => R (.error e) s') e s') s₅ :=
        codeAny_mono hc fun r s₆ h₆ => by
          obtain ⟨rfl, h₆⟩ := h₆
          exact wpAny_pure ⟨rfl, h₆⟩
      refine codeAny_of_tree ?_
      show wpAny _ _ ((compStart (.ListComp elt [⟨.Name x px, i1, f1, 0⟩, ⟨t2, i2, f2, 0⟩] scope pos) 1 it' acc env).onRaise (fun x => do noteFrame x env; standAt theWindowsPlace)) _ _ s₅
      refine wpAny_notedAt ?_
      unfold compStart
      show wpAny _ _ (ask >>= _) _ _ s₅
      refine wpAny_bind (wpAny_askSetting (wpAny_ite ?_))
      split
      · first
          | exact wpAny_bind (wpAny_pure (wpAny_pure (And.intro rfl fin)))
          | exact wpAny_pure (And.intro rfl fin)
      · refine wpAny_bind (wpAny_rule ?_)
        show wpAny _ _ (standAt i2.pos >>= _) _ _ s₅
        refine wpAny_bind (wpAny_standAt (wpAny_bind (wpAny_mono (hself _) (fun it'' s' h' => ?_) fun _ _ x => x)))
        obtain ⟨rfl, rfl⟩ := h'
        exact wpAny_pure (And.intro rfl fin)
end

variable {c : Cx} {μ : Vars} {ν : Muts}

theorem take_filter_flat {α β : Type} (p : α → Bool) (f : α → List β) {ds : List α} {i : Nat} {d : α} (h : ds[i]? = some d) :
    ((ds.take (i + 1)).filter p).flatMap f = ((ds.take i).filter p).flatMap f ++ (if p d then f d else []) := by
  rw [take_succ_filter p ds i d h, List.flatMap_append]
  cases p d <;> simp

theorem Rep.known {H : Addr → Prop} {ν : Muts} {h : Heap} {D' : Addr} {l : List D} {d : D} {v : Value} (hn : ν D' = none) (r : Rep (mask (fun a => H a ∨ a = D') ν h) d v) : Rep (mask H (updM ν D' l) h) d v := by rw [mask_known hn]; exact r

theorem IterOk.unhide {s s₂ : Shared} {D' : Addr} {l : List D} {I : Addr} {ds : List D} {fp wr : List Addr} {Pv : Nat → Value → Prop} {St : Nat → Heap → Prop} (hn : ν D' = none) (K : IterOk { c with H := fun a => c.H a ∨ a = D' } ν s s₂ I ds fp wr Pv St) :
    IterOk c (updM ν D' l) s s₂ I ds fp wr Pv St where
  walks := K.walks
  st := K.st
  kp := K.kp
  fpOk := fun b hb => (K.fpOk b hb).imp id (Or.imp (fun ⟨o, h1, h2, h3, h4⟩ => ⟨o, h1, h2, fun q => h3 (Or.inl q), by
    unfold updM
    have : b ≠ D' := fun q => h3 (Or.inr q)
    simp only [this, if_false]; exact h4⟩) id)
  wrOk := K.wrOk
  fields := K.fields
  vals := fun i v d hv hd => Rep.known hn (K.vals i v d hv hd)

/-- as CompEnd; the new list's items do not lead back to it -/
structure CompEndN (c : Cx) (ν : Muts) (s : Shared) (out : List D) (D' C : Addr) (s' : Shared) : Prop extends CompEnd c ν s out D' C s' where
  accN : ∃ vs, s'.heap.PlainList D' vs ∧ Reps (mask c.H (updM ν D' out) s'.heap) out vs.toList

theorem CompFin.pure {scope : Scope} {s s' : Shared} {out : List D} {D' C : Addr} (F : c.F μ ν s) (K : CompFin c μ ν scope s (fun _ => False) (fun ν' o => ν' = ν ∧ o = out) D' C s') : CompEndN c ν s out D' C s' := by
  obtain ⟨ν', o, ⟨rfl, rfl⟩, hn, F'⟩ := K.fin
  obtain ⟨m, _, hm, _⟩ := F'.vars
  obtain ⟨_, vs, ⟨nn, hp⟩, hr⟩ := F'.muts D' _ updM_self
  have hDH : ¬ c.H D' := fun q => by
    have := F.hid D' q; rw [K.newD] at this; cases this
  refine ⟨⟨?_, ⟨m, hm⟩, K.newC, K.newD, ns_ne_seq hm hp rfl, ⟨vs, ⟨nn, hp⟩, Reps.mono ?_ _ _ hr⟩, hn, hDH, F.lib.fresh K.newD, ?_⟩, ⟨vs, ⟨nn, hp⟩, hr⟩⟩
  · obtain ⟨h₁, tk₁, e⟩ := F'.same
    have keep := F'.keep
    subst e
    exact ⟨h₁, tk₁, rfl, fun b o e => keep b o (fun q => q) e⟩
  · exact mask_updM_le
  · cases q : c.s₀.heap.get? D' with
    | none => rfl
    | some o' => have := F.live D' o' q; rw [K.newD] at this; cases this

/-- the run of a comprehension that changes nothing and comes to out -/
def CompTo (c : Cx) (μ : Vars) (ν : Muts) (iter : Expr) (scope : Scope) (e : Expr) (out : List D) : Prop :=
  ∀ (RR : Value → Addr → Result → Shared → Prop) (E : Value → Shared → Prop) (s : Shared), c.F μ ν s → (∀ D' C s', CompEndN c ν s out D' C s' → RR (.ref D') C (.ok .next) s') →
    wpAny c.M c.A (eval iter c.env) (fun x₁ s₁ => wpAny c.M c.A (pyIter x₁) (fun it s₂ => wpAny c.M c.A (newList []) (fun acc s₃ =>
      wpAny c.M c.A (newFunctionEnv scope c.env.globals (closureOf c.env.cells scope.names []) [] c.env.qual none .none (some c.env)) (fun cenv s₄ =>
        codeAny c.M c.A (.compStart e 0 it acc { cenv with scope := relabel scope c.env }) (RR acc cenv.locals) s₄) E s₃) E s₂) E s₁) E s

theorem CompTo.ev {elt target iter : Expr} {ifs : List Expr} {gs : List Comprehension} {scope : Scope} {pos : Pos} {out : List D} (h : CompTo c μ ν iter scope (.ListComp elt (⟨target, iter, ifs, 0⟩ :: gs) scope pos) out) (hok : compOk scope c.env = true)
    (hs : ∀ v, foldedSetIterable iter c.env v = pure v := by intro _; rfl) : Ev c μ ν (.ListComp elt (⟨target, iter, ifs, 0⟩ :: gs) scope pos) (.list out) := by
  intro s E F
  rw [eval_ListComp]
  refine wpAny_comprehension_free (use := none) rfl hs (closureFor_eq (compOk.all hok)) (compOk.kind hok) (compOk.names hok) ?_
  refine h (fun acc C => compPost c.M c.A E none (Post c ν s (.list out)) acc C) E s F fun D' C s' K => ?_
  obtain ⟨m, hn⟩ := K.ns
  refine ⟨m, hn, fun h' hs' => ⟨?_, ?_⟩⟩
  · obtain ⟨h₁, tk₁, e, hk⟩ := K.kp
    subst e
    exact ⟨h', tk₁, rfl, fun b o e => hs'.extBut b o (by rintro rfl; rw [K.newC] at e; cases e) (hk b o e)⟩
  · refine Rep.mono ?_ _ _ K.toCompEnd.rep
    exact mask_le fun b o _ q e => hs'.extBut b o (ns_ne_seq hn e q) e

theorem CompTo.ex {elt target iter : Expr} {ifs : List Expr} {gs : List Comprehension} {y : Str} {py : Pos} {scope : Scope} {pos spos : Pos} {out : List D} {rest : List Stmt} {P : Flow → Shared → Prop} {E : Value → Shared → Prop}
    (h : CompTo c μ ν iter scope (.ListComp elt (⟨target, iter, ifs, 0⟩ :: gs) scope pos) out) (hok : compOk scope c.env = true) (hy : Own c y)
    (hr : Ex c (upd μ y (.list out)) ν rest P E)
    (hsw : swapsWith (.ListComp elt (⟨target, iter, ifs, 0⟩ :: gs) scope pos) (some (.Name y py)) spos.line c.env = pure true := by rfl)
    (hs : ∀ v, foldedSetIterable iter c.env v = pure v := by intro _; rfl) :
    Ex c μ ν (.Assign [.Name y py] (.ListComp elt (⟨target, iter, ifs, 0⟩ :: gs) scope pos) spos :: rest) P E := by
  refine Ex.cons fun s F => ?_
  rw [exec_Assign_Name_used _ _ _ _ hsw]
  refine wpAny_bind (wpAny_standAt (wpAny_bind ?_))
  show wpAny _ c.A (do let _ ← comprehension (.ListComp elt (⟨target, iter, ifs, 0⟩ :: gs) scope pos) scope c.env _ (newList []) false (eval iter c.env) (some (PySem.assign (.Name y py) c.env))) _ _ s
  refine wpAny_bind (wpAny_mono (wpAny_comprehension_free (use := some (PySem.assign (.Name y py) c.env)) (Q := fun _ s' => thenP c rest P E .next s') rfl hs (closureFor_eq (compOk.all hok)) (compOk.kind hok) (compOk.names hok) ?_) (fun _ s' hq => wpAny_pure (wpAny_pure hq)) fun _ _ e => e)
  refine h (fun acc C => compPost c.M c.A E (some (PySem.assign (.Name y py) c.env)) (fun _ s' => thenP c rest P E .next s') acc C) E s F fun D' C s' K => ?_
  show wpAny c.M c.A (PySem.assign (.Name y py) c.env (.ref D')) _ E s'
  refine wpAny_assign_Name (FD.store (F.keeps K.kp) hy K.toCompEnd.rep fun s'' G st => ?_)
  obtain ⟨m, hn⟩ := K.ns
  have hCL : C ≠ c.env.locals := by
    rintro rfl
    obtain ⟨m', _, hn', _⟩ := F.vars
    obtain ⟨o, _, _, ho, _⟩ := hn'
    rw [K.newC] at ho; cases ho
  have hn'' : s''.heap.Ns C m := hn.at' fun o e => by
    obtain ⟨o', _, _, ho', hd', _⟩ := hn
    rw [ho'] at e; cases e
    exact st.other C _ ho' hCL (by simp [Obj.isCell, hd'])
  exact ⟨m, hn'', fun h' hs' => hr _ (F.letC K.newC hn'' hs' G)⟩

theorem map_get {α : Type} {l : List α} {e : α → D} {i : Nat} {d : D} (h : (l.map e)[i]? = some d) : ∃ a, l[i]? = some a ∧ d = e a := by
  rw [List.getElem?_map] at h
  cases q : l[i]? with
  | none => rw [q] at h; cases h
  | some a => rw [q] at h; exact ⟨a, rfl, by simpa using h.symm⟩
theorem take_filter_mapA {α β : Type} {p : α → Bool} {f : α → β} {l : List α} {i : Nat} {a : α} (h : l[i]? = some a) :
    ((l.take (i + 1)).filter p).map f = ((l.take i).filter p).map f ++ (if p a then [f a] else []) := by
  rw [take_succ_filter p l i a h, List.map_append]
  cases p a <;> simp

/-- one clause, nothing changed -/
theorem CompTo.one {α : Type} {elt iter : Expr} {x : Str} {px : Pos} {ifs : List Expr} {scope : Scope} {pos : Pos} (emb : α → D) (l : List α) (p : α → Bool) (f : α → D)
    (hi : EvI c μ ν iter (l.map emb)) (hok : compOk scope c.env = true) (hx : scope.names.lookup x = some .local ∨ scope.names.lookup x = some .cell) (hsz : l.length < 16777216)
    (ht : ∀ s C H N g a, a ∈ l → EvT { c.comp scope s C H N with g := g } (upd (restr scope μ) x (emb a)) ν ifs (p a))
    (he : ∀ s C H N g a, a ∈ l → p a = true → Ev { c.comp scope s C H N with g := g } (upd (restr scope μ) x (emb a)) ν elt (f a)) :
    CompTo c μ ν iter scope (.ListComp elt [⟨.Name x px, iter, ifs, 0⟩] scope pos) ((l.filter p).map f) := by
  intro RR E s F hRR
  refine wpAny_mono (hi s E F) (fun xv s' h₁ => wpAny_mono h₁ (fun it s₂ h₂ => ?_) fun _ _ e => e) fun _ _ e => e
  obtain ⟨I, fp, wr, Pv, St, rfl, K⟩ := h₂
  refine comp_block (Q := fun ν' out => ν' = ν ∧ out = (l.filter p).map f) (fun _ => False) F K hok rfl (fun D' C s₄ d1 d2 d3 d4 d5 d6 F4 I4 => ?_) fun D' C s' fin => hRR D' C s' (fin.pure F)
  let cL := c.compM ν scope s C (fun _ => False)
  refine codeAny_mono (comp_run1 (cL := cL) (x := x) (Q := fun i ν' out => ν' = ν ∧ out = ((l.take i).filter p).map f) (own_comp (c := c) (s := s) (C := C) (H := c.H) (N := fun b => (ν b).isSome = true) hx) (restr_own hx) F4 I4 d1 d2
    (by show ¬ (ν D').isSome = true; rw [d1]; simp) ⟨rfl, by simp⟩ ?_ comp_rule1 ?_) ?_
  · rintro i ν' out hi' ⟨rfl, rfl⟩
    have := List.length_filter_le p (l.take i)
    have := List.length_take_le i l
    simp only [List.length_map] at hi' ⊢
    omega
  · rintro g i d ν' out hd ⟨rfl, rfl⟩ _
    obtain ⟨a, ha, rfl⟩ := map_get hd
    have ham : a ∈ l := List.mem_of_getElem? ha
    have e1 := take_filter_mapA (p := p) (f := f) ha
    refine ⟨p a, ht s C (fun a => c.H a ∨ a = D') (fun b => (ν' b).isSome = true) g a ham, fun hb => ⟨rfl, ?_⟩, fun hb g' => EvM.ofEv (he s C (fun a => c.H a ∨ a = D') (fun b => (ν' b).isSome = true) g' a ham hb) ⟨rfl, ?_⟩⟩
    · rw [e1, hb]; simp
    · rw [e1, hb]; simp
  · rintro r s₆ ⟨rfl, ν', out, ⟨rfl, rfl⟩, hn, F6⟩
    rw [List.length_map, List.take_length] at F6
    exact ⟨rfl, ν', _, ⟨rfl, rfl⟩, hn, F6⟩

/-- two clauses, nothing changed -/
theorem CompTo.two {α β : Type} {elt i1 i2 : Expr} {x y : Str} {px py : Pos} {f1 f2 : List Expr} {scope : Scope} {pos : Pos} (emb : α → D) (emb2 : β → D) (l : List α) (p : α → Bool) (l2 : α → List β) (p2 : α → β → Bool) (f : α → β → D)
    (hi : EvI c μ ν i1 (l.map emb)) (hok : compOk scope c.env = true) (hx : scope.names.lookup x = some .local ∨ scope.names.lookup x = some .cell) (hy : scope.names.lookup y = some .local ∨ scope.names.lookup y = some .cell) (hxy : y ≠ x)
    (hsz : ((l.map fun d => (l2 d).length).sum) < 16777216)
    (ht : ∀ s C H N g a, a ∈ l → EvT { c.comp scope s C H N with g := g } (upd (restr scope μ) x (emb a)) ν f1 (p a))
    (h2 : ∀ s C H N g a, a ∈ l → p a = true → EvI { c.comp scope s C H N with g := g } (upd (restr scope μ) x (emb a)) ν i2 ((l2 a).map emb2))
    (ht2 : ∀ s C H N g a b, a ∈ l → p a = true → b ∈ l2 a → EvT { c.comp scope s C H N with g := g } (upd (upd (restr scope μ) x (emb a)) y (emb2 b)) ν f2 (p2 a b))
    (he : ∀ s C H N g a b, a ∈ l → p a = true → b ∈ l2 a → p2 a b = true → Ev { c.comp scope s C H N with g := g } (upd (upd (restr scope μ) x (emb a)) y (emb2 b)) ν elt (f a b))
    (hs2 : ∀ env v, foldedSetIterable i2 env v = pure v := by intro _ _; rfl) :
    CompTo c μ ν i1 scope (.ListComp elt [⟨.Name x px, i1, f1, 0⟩, ⟨.Name y py, i2, f2, 0⟩] scope pos) ((l.filter p).flatMap fun d => ((l2 d).filter (p2 d)).map (f d)) := by
  intro RR E s F hRR
  refine wpAny_mono (hi s E F) (fun xv s' h₁ => wpAny_mono h₁ (fun it s₂ h₂ => ?_) fun _ _ e => e) fun _ _ e => e
  obtain ⟨I, fp, wr, Pv, St, rfl, K⟩ := h₂
  have sumle : ∀ i, ((((l.take i).filter p).flatMap fun d => ((l2 d).filter (p2 d)).map (f d))).length ≤ ((l.take i).map fun d => (l2 d).length).sum := by
    intro i
    induction (l.take i) with
    | nil => simp
    | cons d r ih =>
      rw [List.filter_cons]
      have := List.length_filter_le (p2 d) (l2 d)
      split <;> simp only [List.flatMap_cons, List.length_append, List.length_map, List.map_cons, List.sum_cons] <;> omega
  have sumlt : ∀ i d, l[i]? = some d → ((l.take i).map fun d => (l2 d).length).sum + (l2 d).length ≤ ((l.map fun d => (l2 d).length).sum) := by
    intro i d hd
    have e : l = l.take i ++ d :: l.drop (i + 1) := by
      have h := List.take_append_drop i l
      rw [List.drop_eq_getElem_cons (List.getElem?_eq_some_iff.mp hd).1] at h
      rw [(List.getElem?_eq_some_iff.mp hd).2] at h
      exact h.symm
    have : ((l.map fun d => (l2 d).length).sum) = (((l.take i ++ d :: l.drop (i + 1)).map fun d => (l2 d).length).sum) := by rw [← e]
    rw [this, List.map_append, List.sum_append, List.map_cons, List.sum_cons]
    omega
  refine comp_block (Q := fun ν' out => ν' = ν ∧ out = (l.filter p).flatMap fun d => ((l2 d).filter (p2 d)).map (f d)) (fun _ => False) F K hok rfl (fun D' C s₄ d1 d2 d3 d4 d5 d6 F4 I4 => ?_) fun D' C s' fin => hRR D' C s' (fin.pure F)
  let cL := c.compM ν scope s C (fun _ => False)
  refine codeAny_compLoop_two (Between cL (freeze cL (updM ν D' []) s₄.heap) (fun i μ' ν₁ => restr scope μ = μ' ∧ ν₁ = updM ν D' (((l.take i).filter p).flatMap fun d => ((l2 d).filter (p2 d)).map (f d))) (l.map emb) St) ?_ ((l.map emb).length + 1)
    (I4.start F4 ⟨rfl, by simp⟩) (fun v => hs2 _ v)
  intro n s' hI
  refine wpAny_mono (I4.turn F4 n s' hI) (fun r s₁ h₁ => ?_) fun _ _ e => e
  cases r with
  | none =>
    obtain ⟨_, _, ⟨rfl, rfl⟩, F'⟩ := h₁
    rw [List.length_map, List.take_length] at F'
    exact ⟨rfl, ν, _, ⟨rfl, rfl⟩, d1, F'⟩
  | some v =>
    obtain ⟨i, d', _, _, g, hd', ⟨rfl, rfl⟩, F', hv, hg1, hg2, step⟩ := h₁
    obtain ⟨d, hd, rfl⟩ := map_get hd'
    have hdm : d ∈ l := List.mem_of_getElem? hd
    have hDN : ¬ cL.N D' := by show ¬ (ν D').isSome = true; rw [d1]; simp
    refine wpAny_assign_Name (FD.store (c := { cL with g := g }) (d := emb d) F' (own_comp (c := c) (s := s) (C := C) (H := c.H) (N := fun b => (ν b).isSome = true) hx) hv fun s₂ F2 _ => ?_)
    have FH : FD { cL with g := g, H := fun a => cL.H a ∨ a = D' } (upd (restr scope μ) x (emb d)) ν s₂ := FD.hideKnown (c := { cL with g := g }) F2 d1 hDN
    refine wpAny_mono (ht s C (fun a => c.H a ∨ a = D') (fun b => (ν b).isSome = true) g d hdm s₂ _ FH) (fun ok s₃ h₃ => ?_) fun _ _ e => e
    obtain ⟨k3, rfl⟩ := h₃
    have F3 := F2.keeps k3
    have e1 := take_filter_flat p (fun d => ((l2 d).filter (p2 d)).map (f d)) hd
    cases hpd : p d with
    | false =>
      simp only [Bool.false_eq_true, if_false]
      refine step _ _ _ ⟨rfl, ?_⟩ (F3.weaken (weaken_own (restr_own hx)))
      rw [e1, hpd]; simp
    | true =>
      simp only [if_true]
      have FH3 := FH.keeps k3
      refine wpAny_mono (h2 s C (fun a => c.H a ∨ a = D') (fun b => (ν b).isSome = true) g d hdm hpd s₃ _ FH3) (fun xv s₄ h₄ => wpAny_mono h₄ (fun it' s₅ h₅ => ?_) fun _ _ e => e) fun _ _ e => e
      obtain ⟨I', fp', wr', Pv', St', rfl, K'⟩ := h₅
      have K5 : IterOk { cL with g := g } (updM ν D' (((l.take i).filter p).flatMap fun d => ((l2 d).filter (p2 d)).map (f d))) s₃ s₅ I' ((l2 d).map emb2) fp' wr' Pv' St' := IterOk.unhide (c := { cL with g := g }) d1 K'
      refine ⟨?_, fun E' => K'.walks.self 0 _ _ _ K'.st ⟨rfl, rfl⟩⟩
      have F5 := F3.keeps K'.kp
      have It5 := IterOk.iter F3 K5
      refine codeAny_mono (comp_run1 (cL := { cL with g := g }) (x := y) (μ₀ := upd (restr scope μ) x (emb d)) (out₀ := ((l.take i).filter p).flatMap fun d => ((l2 d).filter (p2 d)).map (f d))
        (Q := fun j ν' out => ν' = ν ∧ out = (((l.take i).filter p).flatMap fun d => ((l2 d).filter (p2 d)).map (f d)) ++ (((l2 d).take j).filter (p2 d)).map (f d))
        (own_comp (c := c) (s := s) (C := C) (H := c.H) (N := fun b => (ν b).isSome = true) hy) (by unfold upd; rw [if_neg hxy]; exact restr_own hy) F5 It5 d1 d2 hDN ⟨rfl, by simp⟩ ?_ comp_rule2 ?_) ?_
      · rintro j ν' out hj ⟨rfl, rfl⟩
        have q1 := sumle i
        have q2 := sumlt i d hd
        have q3 := List.length_filter_le (p2 d) ((l2 d).take j)
        have q4 := List.length_take_le j (l2 d)
        rw [List.length_map] at hj
        rw [List.length_append, List.length_map]
        omega
      · rintro g' j e' ν' out he' ⟨rfl, rfl⟩ _
        obtain ⟨e, hee, rfl⟩ := map_get he'
        have hem : e ∈ l2 d := List.mem_of_getElem? hee
        have e2 := take_filter_mapA (p := p2 d) (f := f d) hee
        refine ⟨p2 d e, ht2 s C _ (fun b => (ν' b).isSome = true) g' d e hdm hpd hem, fun hb => ⟨rfl, ?_⟩, fun hb g'' => EvM.ofEv (he s C _ (fun b => (ν' b).isSome = true) g'' d e hdm hpd hem hb) ⟨rfl, ?_⟩⟩
        · rw [e2, hb]; simp
        · rw [e2, hb]; simp
      · rintro r s₆ ⟨rfl, ν', out, ⟨rfl, rfl⟩, _, F6⟩
        refine ⟨rfl, step _ _ _ ⟨rfl, ?_⟩ (F6.weaken (weaken_own (restr_own hx)))⟩
        rw [e1, hpd, List.length_map, List.take_length]; simp
end Mine
end
section
open PySem PySem.W PyProof.Rows
set_option autoImplicit false
set_option maxRecDepth 100000
namespace Mine
section
variable {c : Cx} {μ : Vars} {ν : Muts}

theorem range_pick {α : Type} (xs : List α) (a : Nat) : ∀ n : Nat, (((List.range n).map (a + ·)).filterMap (xs[·]?)) = (xs.drop a).take n
  | 0 => by simp
  | n + 1 => by
    rw [List.range_succ, List.map_append, List.filterMap_append, range_pick xs a n, List.take_add_one]
    congr 1
    rw [List.getElem?_drop]
    cases q : xs[a + n]? <;> simp [q]
theorem pick_plain {α : Type} (xs : List α) {lo hi : Option Int} {a b : Nat} (e : sliceBounds lo hi none xs.length = ((a : Int), (b : Int), 1)) : pick xs lo hi none = (xs.drop a).take (b - a) := by
  unfold pick
  rw [e]
  dsimp only
  rw [sliceRange_one, range_pick]
theorem cut_run {α : Type} (xs : List α) (i j : Nat) : (xs.drop (min i xs.length)).take (min j xs.length - min i xs.length) = (xs.take j).drop i := by
  refine List.ext_getElem? fun k => ?_
  rw [List.getElem?_take, List.getElem?_drop, List.getElem?_drop, List.getElem?_take]
  by_cases h : k < min j xs.length - min i xs.length
  · rw [if_pos h, if_pos (by omega)]
    congr 1
    omega
  · rw [if_neg h]
    by_cases h2 : i + k < j
    · rw [if_pos h2, List.getElem?_eq_none (by omega)]
    · rw [if_neg h2]
theorem pick_run {α : Type} (xs : List α) (i j : Nat) : pick xs (some (i : Int)) (some (j : Int)) none = (xs.take j).drop i := by
  rw [pick_plain xs (kms_bounds (some (i : Int)) (some (j : Int)) xs.length)]
  simp only [kms_lo, kms_hi, Int.natCast_nonneg, Int.not_lt.mpr, if_false, Int.toNat_natCast]
  exact cut_run xs i j
theorem pick_upto {α : Type} (xs : List α) (k : Nat) : pick xs none (some (k : Int)) none = xs.take k := by
  rw [pick_plain xs (kms_bounds none (some (k : Int)) xs.length)]
  simp only [kms_lo, kms_hi, Int.natCast_nonneg, Int.not_lt.mpr, if_false, Int.toNat_natCast]
  have := cut_run xs 0 k
  simpa using this
theorem pick_from {α : Type} (xs : List α) (k : Nat) : pick xs (some (k : Int)) none none = xs.drop k := by
  rw [pick_plain xs (kms_bounds (some (k : Int)) none xs.length)]
  simp only [kms_lo, kms_hi, Int.natCast_nonneg, Int.not_lt.mpr, if_false, Int.toNat_natCast]
  have := cut_run xs k xs.length
  simpa using this

/-- lists of naturals -/
abbrev nl (l : List Nat) : D := .list (l.map nt)
abbrev nll (ls : List (List Nat)) : D := .list (ls.map nl)
theorem li_ofN (l : List Nat) : li (ofN l) = nl l := by simp [li, ofN, nl, nt, Function.comp_def]
theorem ll_ofN (ls : List (List Nat)) : ll (ls.map ofN) = nll ls := by
  simp only [ll, nll, List.map_map]
  congr 1
  exact List.map_congr_left fun l _ => li_ofN l
theorem ofN_map (l : List Nat) : (ofN l).map D.int = l.map nt := by simp [ofN, nt, Function.comp_def]
theorem ofN_any (l : List Nat) (k : Nat) : (ofN l).any (· == (k : Int)) = decide (k ∈ l) := by
  rw [Bool.eq_iff_iff, List.any_eq_true, decide_eq_true_iff]
  constructor
  · rintro ⟨x, hx, e⟩
    simp only [ofN, List.mem_map] at hx
    obtain ⟨n, hn, rfl⟩ := hx
    have : n = k := by have := beq_iff_eq.mp e; omega
    exact this ▸ hn
  · intro h
    exact ⟨_, List.mem_map.mpr ⟨k, h, rfl⟩, by simp⟩
theorem op_inN {k : Nat} {l : List Nat} {d : D} (hd : LD ν d (l.map nt)) : Op2 c μ ν (compareOp .In) (nt k) d (.bool (decide (k ∈ l))) := by
  have h := op_in (c := c) (μ := μ) (k := (k : Int)) (ns := ofN l) (d := d) (by rw [ofN_map]; exact hd)
  rwa [ofN_any] at h
theorem ofN_inj {a b : List Nat} : ofN a = ofN b ↔ a = b := by
  constructor
  · intro h
    have := congrArg (List.map Int.toNat) h
    simpa [ofN, Function.comp_def] using this
  · rintro rfl; rfl
theorem op_eq_nl {a b : List Nat} (r : Room c.A 0) : Op2 c μ ν (compareOp .Eq) (nl a) (nl b) (.bool (decide (a = b))) := by
  have h := op_eq_li (c := c) (μ := μ) (ν := ν) (a := ofN a) (b := ofN b) r
  simp only [li_ofN, ofN_inj] at h
  exact h
theorem op_ne_nl {a b : List Nat} (r : Room c.A 0) : Op2 c μ ν (compareOp .NotEq) (nl a) (nl b) (.bool (decide (a ≠ b))) := by
  have h := op_ne_li (c := c) (μ := μ) (ν := ν) (a := ofN a) (b := ofN b) r
  simp only [li_ofN, ne_eq, ofN_inj] at h
  exact h
theorem ofNs_inj {a b : List (List Nat)} : a.map ofN = b.map ofN ↔ a = b := by
  constructor
  · intro h
    have := congrArg (List.map (List.map Int.toNat)) h
    simpa [ofN, Function.comp_def] using this
  · rintro rfl; rfl
theorem op_ne_nll {a b : List (List Nat)} (r : Room c.A 0) : Op2 c μ ν (compareOp .NotEq) (nll a) (nll b) (.bool (decide (a ≠ b))) := by
  have h := op_ne_ll (c := c) (μ := μ) (ν := ν) (a := a.map ofN) (b := b.map ofN) r
  simp only [ll_ofN, ne_eq, ofNs_inj] at h
  exact h

theorem firstNats (n : Nat) : firstInts n = (List.range n).map nt := rfl
theorem EvI.rangeN {e : Expr} {rp pos : Pos} {n : Nat} (hf : Ev c μ ν (.Name "range" rp) (.val (.type "range"))) (h : Ev c μ ν e (nt n)) (hh : c.A.handled = none) (hn : n < 16777216)
    (he : starEach [e] c.env = [(false, eval e c.env)] := by rfl) : EvI c μ ν (.Call (.Name "range" rp) [e] [] pos) ((List.range n).map nt) := by
  have := EvI.range (pos := pos) hf h hh (by omega) (by omega) he
  rwa [Int.toNat_natCast] at this
theorem Ev.listRangeN {e : Expr} {lp rp p1 p2 : Pos} {n : Nat} (hl : Ev c μ ν (.Name "list" lp) (.val (.type "list"))) (hf : Ev c μ ν (.Name "range" rp) (.val (.type "range"))) (h : Ev c μ ν e (nt n)) (hh : c.A.handled = none)
    (hn : n < 16777216) (he : starEach [e] c.env = [(false, eval e c.env)] := by rfl) (he' : starEach [Expr.Call (.Name "range" rp) [e] [] p1] c.env = [(false, eval (Expr.Call (.Name "range" rp) [e] [] p1) c.env)] := by rfl) :
    Ev c μ ν (.Call (.Name "list" lp) [.Call (.Name "range" rp) [e] [] p1] [] p2) (nl (List.range n)) := by
  have := Ev.listRange (p1 := p1) (p2 := p2) hl hf h hh (by omega) (by omega) he he'
  rwa [Int.toNat_natCast] at this

theorem Ev.upto {α : Type} {emb : α → D} {l : List α} {value upper : Expr} {p pos : Pos} {d₁ : D} {k : Nat} (hv : Ev c μ ν value d₁) (hl : LD ν d₁ (l.map emb)) (h2 : Ev c μ ν upper (nt k)) (hsz : l.length ≤ 16777216) :
    Ev c μ ν (.Subscript value (.Slice none (some upper) none p) pos) (.list ((l.take k).map emb)) := by
  have := Ev.slice (p := p) (pos := pos) (step := none) (st := none) hv hl EvP.none (EvP.some h2) EvP.none (by simp) (by simpa using hsz)
  rwa [pick_upto, ← List.map_take] at this
theorem Ev.from {α : Type} {emb : α → D} {l : List α} {value lower : Expr} {p pos : Pos} {d₁ : D} {k : Nat} (hv : Ev c μ ν value d₁) (hl : LD ν d₁ (l.map emb)) (h2 : Ev c μ ν lower (nt k)) (hsz : l.length ≤ 16777216) :
    Ev c μ ν (.Subscript value (.Slice (some lower) none none p) pos) (.list ((l.drop k).map emb)) := by
  have := Ev.slice (p := p) (pos := pos) (step := none) (st := none) hv hl (EvP.some h2) EvP.none EvP.none (by simp) (by simpa using hsz)
  rwa [pick_from, ← List.map_drop] at this
theorem Ev.run {α : Type} {emb : α → D} {l : List α} {value lower upper : Expr} {p pos : Pos} {d₁ : D} {i j : Nat} (hv : Ev c μ ν value d₁) (hl : LD ν d₁ (l.map emb)) (h1 : Ev c μ ν lower (nt i)) (h2 : Ev c μ ν upper (nt j)) (hsz : l.length ≤ 16777216) :
    Ev c μ ν (.Subscript value (.Slice (some lower) (some upper) none p) pos) (.list (((l.take j).drop i).map emb)) := by
  have := Ev.slice (p := p) (pos := pos) (step := none) (st := none) hv hl (EvP.some h1) (EvP.some h2) EvP.none (by simp) (by simpa using hsz)
  rwa [pick_run, ← List.map_take, ← List.map_drop] at this

/-- a frame over the text -/
structure Std (P : Params) (c : Cx) : Prop where
  h : HL P c.hL
  G : c.env.globals = mainGlobals
  B : c.env.builtins = builtinsNs
variable {P : Params}
theorem Std.comp (S : Std P c) (scope : Scope) (s : Shared) (C : Addr) (H N : Addr → Prop) (g : View) : Std P { c.comp scope s C H N with g := g } := ⟨S.h, S.G, S.B⟩
theorem Ev.builtin (S : Std P c) {x : Str} {pos : Pos} {v : Value} (hb : bootBuiltins x = some v) (hk : c.env.kindOf x = some .globalImplicit := by kernel_rfl) (hv : nsIn (Mine.hd.heap_39 P) mainGlobals x = some none := by kernel_rfl)
    (hx : x ≠ "__name__" := by decide) (hd : (x == ("__debug__" : Str)) = false := by decide) : Ev c μ ν (.Name x pos) (.val v) :=
  Ev.glob (S.h.built (nsOk P) hv hb hx S.G S.B) hk (by rw [S.G]; decide) (by rw [S.B]; decide) hd
theorem Ev.global (S : Std P c) {x : Str} {pos : Pos} {v : Value} (hv : nsIn (Mine.hd.heap_39 P) mainGlobals x = some (some v) := by kernel_rfl) (hk : c.env.kindOf x = some .globalImplicit := by kernel_rfl)
    (hd : (x == ("__debug__" : Str)) = false := by decide) : Ev c μ ν (.Name x pos) (.val v) :=
  Ev.glob (S.h.glob (nsOk P) hv S.G) hk (by rw [S.G]; decide) (by rw [S.B]; decide) hd
end
end Mine
end
section
open PySem PySem.W PyProof.Rows
set_option autoImplicit false
set_option maxRecDepth 100000
namespace Mine
variable {P : Params} {prog : Program} {w : World} {hL : Heap}

theorem Pure.of_eq {f : Addr} {need : Nat} {ds ds' : List D} {d d' : D} (h : Pure prog w hL f need ds d) (e : ds = ds') (e' : d = d') : Pure prog w hL f need ds' d' := e ▸ e' ▸ h

theorem CompTo.of_eq {c : Cx} {μ : Vars} {ν : Muts} {iter e : Expr} {scope : Scope} {out out' : List D} (h : CompTo c μ ν iter scope e out) (q : out = out') : CompTo c μ ν iter scope e out' := q ▸ h

theorem Ev.of_eq {c : Cx} {μ : Vars} {ν : Muts} {e : Expr} {d d' : D} (h : Ev c μ ν e d) (q : d = d') : Ev c μ ν e d' := q ▸ h
theorem filter_tt {α : Type} (l : List α) : l.filter (fun _ => true) = l := List.filter_eq_self.mpr fun _ _ => rfl
theorem sum_le {α : Type} {f : α → Nat} {B : Nat} : ∀ {l : List α}, (∀ a ∈ l, f a ≤ B) → (l.map f).sum ≤ l.length * B
  | [], _ => by simp
  | a :: l, h => by
    have := sum_le (l := l) fun b hb => h b (List.mem_cons_of_mem _ hb)
    have := h a List.mem_cons_self
    simp only [List.map_cons, List.sum_cons, List.length_cons, Nat.succ_mul]
    omega

def aheadOf (logs : List (List Nat)) (k : Nat) : List Nat := (logs.filter fun l => decide (k ∈ l)).flatMap fun l => l.take (l.idxOf k)
def stuckStep (logs : List (List Nat)) (left : List Nat) : List Nat := left.filter fun k => decide ((aheadOf logs k).filter (fun x => decide (x ∈ left)) ≠ [])
def stuckN (logs : List (List Nat)) (m : Nat) : Nat → List Nat
  | 0 => List.range m
  | n + 1 => stuckStep logs (stuckN logs m n)
def stuckOf (logs : List (List Nat)) (m : Nat) : List Nat := stuckN logs m m

theorem stuckN_len (logs : List (List Nat)) (m : Nat) : ∀ n, (stuckN logs m n).length ≤ m
  | 0 => by simp [stuckN]
  | n + 1 => Nat.le_trans (List.length_filter_le _ _) (stuckN_len logs m n)
theorem stuckN_lt (logs : List (List Nat)) (m : Nat) : ∀ n k, k ∈ stuckN logs m n → k < m
  | 0, k, h => by simpa [stuckN] using h
  | n + 1, k, h => stuckN_lt logs m n k (List.mem_filter.mp h).1

structure SmallLogs (logs : List (List Nat)) : Prop where
  len : logs.length ≤ 64
  each : ∀ l ∈ logs, l.length ≤ 64 ∧ ∀ k ∈ l, k < 64

theorem SmallLogs.small {logs : List (List Nat)} (h : SmallLogs logs) {l : List Nat} (hl : l ∈ logs) : SmallL (ofN l) := by
  refine ⟨by simpa using Nat.le_trans (h.each l hl).1 (by decide), fun n hn => ?_⟩
  simp only [ofN, List.mem_map] at hn
  obtain ⟨k, hk, rfl⟩ := hn
  have := (h.each l hl).2 k hk
  omega

theorem stuck_at (h : HL P hL) : DefAt hL 120 (fdAt P 120) (bodyAt P 120) ["logs", "many"] := def_at h 120 _ 119

theorem pcx_std (h : HL P hL) {A : Around} {a : Addr} {s : Shared} {H : Addr → Prop} (hG : (fdAt P a).globals = mainGlobals := by kernel_rfl) (hB : (fdAt P a).builtins = builtinsNs := by kernel_rfl) : Std P (pcx prog w A hL P a s H) := ⟨h, hG, hB⟩

theorem stuck_pure (h : HL P hL) (logs : List (List Nat)) (hs : SmallLogs logs) (m : Nat) (hm : m ≤ 64) : Pure prog w hL 120 1 [nll logs, nt m] (nl (stuckOf logs m)) := by
  refine pure_of (stuck_at h) rfl (fun vs hv => ?_) fun A s H room => ?_
  · match vs, hv with
    | [_, _], _ => rfl
  · have S : Std P (pcx prog w A hL P 120 s H) := pcx_std h
    refine Ex.assign (d := .list ((List.range m).map fun k => nl (aheadOf logs k))) (CompTo.ev (CompTo.of_eq (CompTo.one nt (List.range m) (fun _ => true) (fun k => nl (aheadOf logs k))
        (EvI.rangeN (Ev.builtin S Boot.«range») (Ev.name rfl) room.handled (by omega)) (by kernel_rfl) (by decide) (by simp; omega) (fun s C H N g a ha => EvT.nil) (fun s C H N g a ha _ => ?_)) ?_) ?_) ?_ ?_
    · refine CompTo.ev (CompTo.of_eq (CompTo.two nl nt logs (fun l => decide (a ∈ l)) (fun l => l.take (l.idxOf a)) (fun _ _ => true) (fun _ b => nt b)
        (EvI.list (Ev.name rfl) room.handled) (by kernel_rfl) (by decide) (by decide) (by decide) ?_ (fun s C H N g l hl => EvT.one (EvB.cmp (Ev.name rfl) (Ev.name rfl) (op_inN (LD.data _)))) (fun s C H N g l hl hp => EvI.list (Ev.upto (Ev.name rfl) (LD.data _) ?_ ?_) room.handled)
        (fun s C H N g l b hl hp hb => EvT.nil) (fun s C H N g l b hl hp hb _ => Ev.name rfl)) ?_) (by kernel_rfl)
      · have := sum_le (f := fun d => (List.take (List.idxOf a d) d).length) (B := 64) (l := logs) fun l hl => by
          have := (hs.each l hl).1
          rw [List.length_take]; omega
        have := hs.len
        omega
      · exact Ev.indexN (l := l) (k := a) (li_ofN l ▸ Ev.name rfl) (Ev.name rfl) (hs.small hl) (by simpa using hp)
      · have := (hs.each l hl).1; omega
      · simp only [filter_tt, aheadOf, List.map_flatMap]
    · rw [filter_tt]
    · kernel_rfl
    · exact Or.inr ⟨by kernel_rfl, by kernel_rfl, rfl⟩
    refine Ex.assign (Ev.listRangeN (Ev.builtin S Boot.«list») (Ev.builtin S Boot.«range») (Ev.name rfl) room.handled (by omega)) (Or.inr ⟨by kernel_rfl, by kernel_rfl, rfl⟩) ?_
    refine Ex.forLoop (ds := (List.range m).map nt) (fun i μ ν => μ "many" = some (nt m) ∧ μ "ahead" = some (.list ((List.range m).map fun k => nl (aheadOf logs k))) ∧ μ "left" = some (nl (stuckN logs m i)) ∧ ν = noMuts) (fun _ _ => False)
      (EvI.rangeN (Ev.builtin S Boot.«range») (Ev.name rfl) room.handled (by omega)) (Or.inl (by kernel_rfl)) ⟨rfl, rfl, rfl, rfl⟩ ?_ (fun _ _ h => h.elim) ?_
    · rintro g i d μ' ν' hd ⟨hm', ha, hl, rfl⟩
      refine Ex.assign (d := nl (stuckN logs m (i + 1))) (CompTo.ev (CompTo.of_eq (CompTo.one nt (stuckN logs m i) (fun k => decide ((aheadOf logs k).filter (fun x => decide (x ∈ stuckN logs m i)) ≠ [])) (fun k => nt k)
        (EvI.list (Ev.name ?_) room.handled) (by kernel_rfl) (by decide) ?_ (fun s C H N g k hk => EvT.one (EvB.cmp (Ev.of_eq (CompTo.ev (CompTo.one nt (aheadOf logs k) (fun x => decide (x ∈ stuckN logs m i)) (fun x => nt x)
          (EvI.list (Ev.itemN (ds := (List.range m).map fun k => nl (aheadOf logs k)) (Ev.name ?_) (Ev.name rfl) (LD.data _) (d := nl (aheadOf logs k)) ?_ ?_) room.handled) (by kernel_rfl) (by decide) ?_ (fun s C H N g x hx => EvT.one (EvB.cmp (Ev.name rfl) (Ev.name ?_) (op_inN (LD.data _)))) (fun s C H N g x hx _ => Ev.name rfl)) (by kernel_rfl)) ?_) (Ev.list EvL.nil) (op_ne_nl (a := (aheadOf logs k).filter (fun x => decide (x ∈ stuckN logs m i))) (b := []) ?_))) (fun s C H N g k hk _ => Ev.name rfl)) ?_) (by kernel_rfl)) ?_ ?_
      · exact hl
      · have := stuckN_len logs m i; omega
      · exact ha
      · have := stuckN_lt logs m i k hk
        simp [this]
      · simp; omega
      · have h1 := sum_le (f := fun d => (List.take (List.idxOf k d) d).length) (B := 64) (l := logs.filter fun l => decide (k ∈ l)) fun l hl => by
          have := (hs.each l (List.mem_filter.mp hl).1).1
          rw [List.length_take]; omega
        have h2 := List.length_filter_le (fun l => decide (k ∈ l)) logs
        have h3 := hs.len
        unfold aheadOf
        rw [List.length_flatMap]
        omega
      · exact hl
      · rfl
      · exact room.deeper
      · rfl
      · exact Or.inr ⟨by kernel_rfl, by kernel_rfl, rfl⟩
      · refine Ex.nil fun s' F' => ⟨_, _, ⟨?_, ?_, ?_, rfl⟩, F'⟩
        · exact hm'
        · exact ha
        · rfl
    · rintro μ' ν' ⟨hm', ha, hl, rfl⟩
      refine Ex.nil fun s' F' => ?_
      refine Ex.then (Ex.ret (Ev.name hl) fun v s' F hv => ⟨v, rfl, F.kp fun _ e => e, ?_⟩) s' F'
      rw [List.length_map, List.length_range] at hv
      exact hv
end Mine
end
section
open PySem PySem.W PyProof.Rows
set_option autoImplicit false
set_option maxRecDepth 100000
namespace Mine
variable {c : Cx} {μ : Vars} {ν : Muts}

/-- several lists that are known -/
def kn : List Addr → List (List D) → Muts
  | a :: as, l :: ls => fun b => if b = a then some l else kn as ls b
  | _, _ => fun _ => none

theorem kn_get : ∀ {as : List Addr} {ls : List (List D)} {i : Nat} {a : Addr} {l : List D}, as.Nodup → as[i]? = some a → ls[i]? = some l → kn as ls a = some l
  | [], _, _, _, _, _, h, _ => by simp at h
  | _ :: _, [], _, _, _, _, _, h => by simp at h
  | b :: as, k :: ls, 0, a, l, _, h, h' => by
    simp at h h'; subst h; subst h'; simp [kn]
  | b :: as, k :: ls, i + 1, a, l, hn, h, h' => by
    have hb : a ≠ b := fun q => (List.nodup_cons.mp hn).1 (q ▸ List.mem_of_getElem? (by simpa using h))
    simp only [kn, hb, if_false]
    exact kn_get (List.nodup_cons.mp hn).2 (by simpa using h) (by simpa using h')
theorem kn_snoc : ∀ {as : List Addr} {ls : List (List D)} {a : Addr} {l : List D}, as.length = ls.length → a ∉ as → updM (kn as ls) a l = kn (as ++ [a]) (ls ++ [l])
  | [], [], a, l, _, _ => rfl
  | [], _ :: _, _, _, h, _ => by simp at h
  | _ :: _, [], _, _, h, _ => by simp at h
  | b :: as, k :: ls, a, l, h, hn => by
    simp only [List.mem_cons, not_or] at hn
    simp only [List.cons_append, kn]
    rw [← kn_snoc (by simpa using h) hn.2]
    funext x
    unfold updM
    by_cases hx : x = a
    · subst hx; simp [hn.1]
    · simp [hx]
theorem kn_set : ∀ {as : List Addr} {ls : List (List D)} {i : Nat} {a : Addr} {l : List D}, as.Nodup → as[i]? = some a → i < ls.length → updM (kn as ls) a l = kn as (ls.set i l)
  | [], _, _, _, _, _, h, _ => by simp at h
  | _ :: _, [], _, _, _, _, _, h => by simp at h
  | b :: as, k :: ls, 0, a, l, _, h, _ => by
    simp at h; subst h
    funext x
    simp only [updM, List.set_cons_zero, kn]
    split <;> rfl
  | b :: as, k :: ls, i + 1, a, l, hn, h, h' => by
    have hb : a ≠ b := fun q => (List.nodup_cons.mp hn).1 (q ▸ List.mem_of_getElem? (by simpa using h))
    simp only [List.set_cons_succ, kn]
    rw [← kn_set (List.nodup_cons.mp hn).2 (by simpa using h) (by simpa using h')]
    funext x
    unfold updM
    by_cases hx : x = a
    · subst hx; simp [hb]
    · simp [hx]
/-- a list that is new -/
def EvNew (c : Cx) (μ : Vars) (ν : Muts) (e : Expr) (out : List D) : Prop :=
  ∀ s E, c.F μ ν s → wpAny c.M c.A (eval e c.env) (fun v s' => ∃ a vs, v = .ref a ∧ Kp s s' ∧ s.heap.get? a = none ∧ s'.heap.PlainList a vs ∧ Reps (mask c.H (updM ν a out) s'.heap) out vs.toList) E s

theorem FD.keepsMut {s s' : Shared} {a : Addr} {out : List D} {vs : Array Value} (F : c.F μ ν s) (k : Kp s s') (ha : s.heap.get? a = none) (hp : s'.heap.PlainList a vs) (hr : Reps (mask c.H (updM ν a out) s'.heap) out vs.toList) : c.F μ (updM ν a out) s' := by
  have F' := F.keeps k
  have hs0 : c.s₀.heap.get? a = none := by
    cases q : c.s₀.heap.get? a with
    | none => rfl
    | some o => have := F.live a o q; rw [ha] at this; cases this
  have le : SeqLe (mask c.H ν s.heap) (mask c.H (updM ν a out) s'.heap) := by
    intro b o e _
    rw [mask_some] at e ⊢
    have hb : b ≠ a := by rintro rfl; rw [ha] at e; cases e.2.2
    exact ⟨e.1, by unfold updM; simp only [hb, if_false]; exact e.2.1, k.get b o e.2.2⟩
  exact {
    same := F'.same
    keep := F'.keep
    live := F'.live
    lib := F'.lib
    fn := F'.fn
    hid := F'.hid
    hidL := F'.hidL
    mutH := fun b hb q => by
      unfold updM at hb
      split at hb
      · rename_i r; have := F.hid b q; rw [r, ha] at this; cases this
      · exact F.mutH b hb q
    froz := F'.froz
    frozM := fun b l e => by
      unfold updM at e
      by_cases q : b = a
      · subst q; exact F.g_none ha
      · simp only [q, if_false] at e; exact F.frozM b l e
    dom := fun b hb => by
      unfold updM
      split
      · rfl
      · exact F.dom b hb
    newM := fun b hb => by
      unfold updM at hb
      split at hb
      · rename_i q; rw [q]; exact Or.inr hs0
      · exact F.newM b hb
    freshL := F.freshL
    freshC := F.freshC
    apart := F.apart
    vars := by
      obtain ⟨m, cm, hn, hc, hv⟩ := F.vars
      refine ⟨m, cm, hn.keeps k.get, fun n b e => (hc n b e).keeps k.get, fun x d e => ?_⟩
      obtain ⟨v, hr', hw⟩ := hv x d e
      exact ⟨v, Rep.mono le _ _ hr', hw⟩
    muts := fun b l e => by
      unfold updM at e
      by_cases q : b = a
      · subst q
        simp only [if_true] at e; cases e
        exact ⟨F.lib.fresh ha, vs, hp, hr⟩
      · simp only [q, if_false] at e
        obtain ⟨h1, us, h2, h3⟩ := F.muts b l e
        exact ⟨h1, us, h2.at fun o e' => k.get b o e', Reps.mono le _ _ h3⟩ }

theorem FD.ν_none {s : Shared} (F : c.F μ ν s) {a : Addr} (ha : s.heap.get? a = none) : ν a = none := by
  cases q : ν a with
  | none => rfl
  | some l =>
    obtain ⟨_, vs, ⟨n, hp⟩, _⟩ := F.muts a l q
    rw [ha] at hp; cases hp

theorem EvNew.evM {e : Expr} {out : List D} (h : EvNew c μ ν e out) : EvM c μ ν e (fun ν' d => ∃ a, ν a = none ∧ ν' = updM ν a out ∧ d = .val (.ref a)) := fun s E F => by
  refine wpAny_mono (h s E F) (fun v s' h' => ?_) fun _ _ e => e
  obtain ⟨a, vs, rfl, k, ha, hp, hr⟩ := h'
  exact ⟨_, _, ⟨a, F.ν_none ha, rfl, rfl⟩, F.keepsMut k ha hp hr, rfl⟩
theorem EvM.mono {e : Expr} {Q Q' : Muts → D → Prop} (h : EvM c μ ν e Q) (q : ∀ ν' d, Q ν' d → Q' ν' d) : EvM c μ ν e Q' := fun s E F =>
  wpAny_mono (h s E F) (fun v s' h' => by obtain ⟨ν', d, h1, h2⟩ := h'; exact ⟨ν', d, q _ _ h1, h2⟩) fun _ _ e => e

theorem CompTo.evNew {elt target iter : Expr} {ifs : List Expr} {gs : List Comprehension} {scope : Scope} {pos : Pos} {out : List D} (h : CompTo c μ ν iter scope (.ListComp elt (⟨target, iter, ifs, 0⟩ :: gs) scope pos) out) (hok : compOk scope c.env = true)
    (hs : ∀ v, foldedSetIterable iter c.env v = pure v := by intro _; rfl) : EvNew c μ ν (.ListComp elt (⟨target, iter, ifs, 0⟩ :: gs) scope pos) out := by
  intro s E F
  rw [eval_ListComp]
  refine wpAny_comprehension_free (use := none) rfl hs (closureFor_eq (compOk.all hok)) (compOk.kind hok) (compOk.names hok) ?_
  refine h (fun acc C => compPost c.M c.A E none (fun v s' => ∃ a vs, v = .ref a ∧ Kp s s' ∧ s.heap.get? a = none ∧ s'.heap.PlainList a vs ∧ Reps (mask c.H (updM ν a out) s'.heap) out vs.toList) acc C) E s F fun D' C s' K => ?_
  obtain ⟨m, hn⟩ := K.ns
  obtain ⟨vs, ⟨n, hp⟩, hr⟩ := K.accN
  refine ⟨m, hn, fun h' hs' => ⟨D', vs, rfl, ?_, K.newD, ⟨n, hs'.extBut _ _ K.ne hp⟩, Reps.mono ?_ _ _ hr⟩⟩
  · obtain ⟨h₁, tk₁, e, hk⟩ := K.kp
    subst e
    exact ⟨h', tk₁, rfl, fun b o e => hs'.extBut b o (by rintro rfl; rw [K.newC] at e; cases e) (hk b o e)⟩
  · exact mask_le fun b o _ q e => hs'.extBut b o (ns_ne_seq hn e q) e

theorem Reps.set {g : View} : ∀ {ds : List D} {vs : List Value} {i : Nat} {d : D} {v : Value}, Reps g ds vs → Rep g d v → Reps g (ds.set i d) (vs.set i v)
  | [], _, _, _, _, h, _ => by simp only [Reps] at h; subst h; simp [Reps]
  | e :: ds, _, 0, d, v, h, hd => by
    simp only [Reps] at h
    obtain ⟨u, r, rfl, _, hr⟩ := h
    simp only [List.set_cons_zero, Reps]
    exact ⟨v, r, rfl, hd, hr⟩
  | e :: ds, _, i + 1, d, v, h, hd => by
    simp only [Reps] at h
    obtain ⟨u, r, rfl, hu, hr⟩ := h
    simp only [List.set_cons_succ, Reps]
    exact ⟨u, _, rfl, hu, hr.set hd⟩

/-- a known list, an item set -/
theorem FD.setItem {s : Shared} {E : Value → Shared → Prop} (F : c.F μ ν s) {a : Addr} {l : List D} {i : Nat} {t : Tok} {d : D} {v : Value} {Q : Unit → Shared → Prop} (hν : ν a = some l) (hp : c.X a ∨ c.s₀.heap.get? a = none)
    (hr : Rep (mask c.H ν s.heap) d v) (hi : i < l.length) (hsz : l.length ≤ 16777216) (h : ∀ s', c.F μ (updM ν a (l.set i d)) s' → SeqLe (mask c.H ν s.heap) (mask c.H (updM ν a (l.set i d)) s'.heap) → Q () s') :
    wpAny c.M c.A (PySem.setItem (.ref a) (.int (i : Int) t) v) Q E s := by
  obtain ⟨_, vs, ⟨n, hpl⟩, hl⟩ := F.muts a l hν
  have hlen : vs.size = l.length := by rw [← hl.length]; simp
  refine ki_setAt (n := n) hpl (by omega) (by omega) (by omega) (h _ (F.mutate (tk := s.toks) hν hp (vs' := vs.setIfInBounds i v) ⟨_, IsL.update (n := n) hpl _⟩ (Heap.SameBut.update ..) ?_) ?_)
  · have : (vs.setIfInBounds i v).toList = vs.toList.set i v := by simp
    rw [this]
    exact hl.set hr
  · rw [mask_updM hν]
    intro b o e _
    rw [mask_some] at e ⊢
    exact ⟨e.1, e.2.1, (Heap.SameBut.update ..).extBut b o (by rintro rfl; rw [hν] at e; cases e.2.1) e.2.2⟩
/-- its first item taken away -/
theorem FD.delHead {s : Shared} {E : Value → Shared → Prop} (F : c.F μ ν s) {a : Addr} {l : List D} {d : D} {t : Tok} {Q : Unit → Shared → Prop} (hν : ν a = some (d :: l)) (hp : c.X a ∨ c.s₀.heap.get? a = none)
    (hsz : l.length < 16777216) (h : ∀ s', c.F μ (updM ν a l) s' → Q () s') :
    wpAny c.M c.A (PySem.delItem (.ref a) (.int 0 t)) Q E s := by
  obtain ⟨_, vs, hpl, hl⟩ := F.muts a _ hν
  have hlen : vs.size = l.length + 1 := by rw [← Array.length_toList, hl.length]; rfl
  refine wpAny_delItem_plain (k := 0) hpl (by decide) ?_ (fun h' hp' hs' => h _ (F.mutate (tk := s.toks) hν hp hp' hs' ?_)) (by rw [hlen, sizeLine_eq]; omega)
  · rw [hlen]; unfold seqIndex?; simp
  · simp only [Reps] at hl
    obtain ⟨v, r, e, _, hr⟩ := hl
    have : (vs.eraseIdxIfInBounds 0).toList = r := by
      rw [Array.eraseIdxIfInBounds]
      simp only [hlen, Nat.zero_lt_succ, dif_pos]
      rw [Array.toList_eraseIdx, e]; rfl
    rw [this]; exact hr
end Mine
end
section
open PySem PySem.W PyProof.Rows
set_option autoImplicit false
set_option maxRecDepth 100000
namespace Mine
section
variable {c : Cx} {μ : Vars} {ν : Muts} {P : Flow → Shared → Prop} {E : Value → Shared → Prop} {rest : List Stmt}

theorem wp_assign_sub {M : Model} {A : Around} {E : Value → Shared → Prop} {s : Shared} {env : Env} {o i : Expr} {pos : Pos} {v : Value} {Q : Unit → Shared → Prop}
    (h : wpAny M A (eval o env) (fun ov s₁ => wpAny M A (eval i env) (fun iv s₂ => wpAny M A (PySem.setItem ov iv v) Q E s₂) E s₁) E s) : wpAny M A (PySem.assign (.Subscript o i pos) env v) Q E s := by
  rw [arm_assign_Subscript]
  refine wpAny_bind (wpAny_holding (wpAny_mono h (fun ov s₁ h₁ => wpAny_bind (wpAny_holding (wpAny_mono h₁ (fun iv s₂ h₂ => wpAny_bind (wpAny_standAt (wpAny_bind (wpAny_holding (wpAny_mono h₂ (fun _ s₃ h₃ => ?_) fun _ _ e => e))))) fun _ _ e => e))) fun _ _ e => e))
  exact wpAny_release' h₃

theorem call_lenN {d : D} {ds : List D} {n : Nat} (hd : LD ν d ds) (hn : ds.length = n) (hsz : n < 16777216) : CallIs c μ ν (.builtin "len") [d] (nt n) := by
  subst hn
  exact call_len hd (by omega)

theorem Std.compM {P : Params} (S : Std P c) (ν : Muts) (scope : Scope) (s : Shared) (C : Addr) (X H : Addr → Prop) (g : View) : Std P { c.compM ν scope s C X with g := g, H := H } := ⟨S.h, S.G, S.B⟩

/-- a known list, read as data -/
theorem FD.readMut {s : Shared} (F : c.F μ ν s) {a : Addr} {l : List D} (h : ν a = some l) : Rep (mask c.H noMuts s.heap) (.list l) (.ref a) := by
  obtain ⟨_, vs, ⟨n, hp⟩, hr⟩ := F.muts a l h
  simp only [Rep]
  exact ⟨a, vs, rfl, ⟨_, mask_some.mpr ⟨F.mutH a (by rw [h]; rfl), rfl, hp⟩, rfl, rfl, n, rfl⟩, Reps.mono (mask_less fun a l e => by cases e) _ _ hr⟩
theorem FD.readRefs {s : Shared} (F : c.F μ ν s) {as : List Addr} {ls : List (List Nat)} (hlen : as.length = ls.length) (hk : ∀ r ar, as[r]? = some ar → ν ar = some ((ls.getD r []).map nt)) {vs : List Value} (hv : vs = as.map Value.ref) :
    Reps (mask c.H noMuts s.heap) (ls.map nl) vs := by
  subst hv
  refine Reps.of_get (by simp [hlen]) fun i d v hd hv => ?_
  obtain ⟨l, hl, rfl⟩ := map_get hd
  rw [List.getElem?_map] at hv
  cases q : as[i]? with
  | none => rw [q] at hv; cases hv
  | some a =>
    rw [q] at hv
    simp at hv
    subst hv
    have := hk i a q
    rw [List.getD_eq_getElem?_getD, hl] at this
    exact F.readMut this
theorem refs_of {g : View} : ∀ {as : List Addr} {vs : List Value}, Reps g (as.map fun a => D.val (.ref a)) vs → vs = as.map Value.ref
  | [], _, h => by simpa [Reps] using h
  | a :: as, _, h => by
    simp only [List.map_cons, Reps, Rep] at h
    obtain ⟨v, r, rfl, rfl, hr⟩ := h
    rw [refs_of hr]; rfl
theorem FD.readMuts {s : Shared} (F : c.F μ ν s) {a : Addr} {as : List Addr} {ls : List (List Nat)} (ha : ν a = some (as.map fun a => D.val (.ref a))) (hlen : as.length = ls.length) (hk : ∀ r ar, as[r]? = some ar → ν ar = some ((ls.getD r []).map nt)) :
    Rep (mask c.H noMuts s.heap) (nll ls) (.ref a) := by
  obtain ⟨_, vs, ⟨n, hp⟩, hr⟩ := F.muts a _ ha
  simp only [Rep]
  exact ⟨a, vs, rfl, ⟨_, mask_some.mpr ⟨F.mutH a (by rw [ha]; rfl), rfl, hp⟩, rfl, rfl, n, rfl⟩, F.readRefs hlen hk (refs_of hr)⟩

/-- two items of a known list are set at once -/
theorem Ex.setTwo {o1 i1 o2 i2 e1 e2 : Expr} {p1 p2 tpos vpos pos : Pos} {k kv : Nat} {a : Addr} {l : List D} {d1 d2 : D} {i j : Nat} (hh : c.A.handled = none) (hν : ν a = some l) (own : ∀ s, c.F μ ν s → c.X a ∨ c.s₀.heap.get? a = none)
    (hl : EvL c μ ν vpos [e1, e2] [d1, d2]) (ho1 : Ev c μ ν o1 (.val (.ref a))) (hi1 : Ev c μ ν i1 (nt i)) (ho2 : Ev c μ (updM ν a (l.set i d1)) o2 (.val (.ref a))) (hi2 : Ev c μ (updM ν a (l.set i d1)) i2 (nt j))
    (hi : i < l.length) (hj : j < l.length) (hsz : l.length ≤ 16777216) (hr : Ex c μ (updM ν a ((l.set i d1).set j d2)) rest P E)
    (ha : assignEach [.Subscript o1 i1 p1, .Subscript o2 i2 p2] c.env = [(false, PySem.assign (.Subscript o1 i1 p1) c.env), (false, PySem.assign (.Subscript o2 i2 p2) c.env)] := by rfl)
    (hs : swapsWithSole [.Tuple [.Subscript o1 i1 p1, .Subscript o2 i2 p2] k tpos] (.Tuple [e1, e2] kv vpos) pos.line c.env = pure false := by rfl)
    (hw : swappedStores [.Tuple [.Subscript o1 i1 p1, .Subscript o2 i2 p2] k tpos] (.Tuple [e1, e2] kv vpos) c.env = pure none := by rfl) :
    Ex c μ ν (.Assign [.Tuple [.Subscript o1 i1 p1, .Subscript o2 i2 p2] k tpos] (.Tuple [e1, e2] kv vpos) pos :: rest) P E := by
  refine Ex.cons fun s F => Assign_Tuple (wpAny_Tuple_spliced ?_) hs hw
  have own := own s F
  refine wpAny_mono (hl s E F) (fun vs s₁ h₁ => ?_) fun _ _ e => e
  obtain ⟨k₁, hv⟩ := h₁
  have F1 := F.keeps k₁
  obtain ⟨v1, v2, rfl, r1, r2⟩ : ∃ v1 v2, vs = [v1, v2] ∧ Rep (mask c.H ν s₁.heap) d1 v1 ∧ Rep (mask c.H ν s₁.heap) d2 v2 := by
    simp only [Reps] at hv
    obtain ⟨v1, r, rfl, h1, v2, r', rfl, h2, rfl⟩ := hv
    exact ⟨v1, v2, rfl, h1, h2⟩
  refine ⟨by rw [sizeLine_eq]; simp, ?_⟩
  have k₂ : Kp s₁ { s₁ with heap := s₁.heap.push { cls := .type "tuple", data := .seq [v1, v2].toArray } } := ⟨_, s₁.toks, rfl, fun _ _ e => Heap.get?_push_of_some _ e⟩
  have F2 := F1.keeps k₂
  have ht : ({ s₁ with heap := s₁.heap.push { cls := .type "tuple", data := .seq [v1, v2].toArray } } : Shared).heap.IsTuple s₁.heap.objs.size [v1, v2].toArray := ⟨_, Heap.get?_push_size _ rfl, rfl, 0, rfl⟩
  refine wpAny_assign_Tuple hh ht (by rw [ha]; rfl) (by rw [ha]; rfl) fun h₃ he₃ => ?_
  have k₃ : Kp { s₁ with heap := s₁.heap.push { cls := .type "tuple", data := .seq [v1, v2].toArray } } { s₁ with heap := h₃ } := ⟨h₃, s₁.toks, rfl, fun b o e => he₃ b o (Nat.ne_of_lt (Heap.lt_size e)) e⟩
  have F3 := F2.keeps k₃
  have r1 := (r1.keeps k₂).keeps k₃
  have r2 := (r2.keeps k₂).keeps k₃
  rw [ha]
  refine assignInOrder_cons (wp_assign_sub (wpAny_mono (ho1 _ E F3) (fun ov s₄ h₄ => wpAny_mono (hi1 s₄ E (F3.keeps h₄.1)) (fun iv s₅ h₅ => ?_) fun _ _ e => e) fun _ _ e => e))
  have q4 := h₄.2
  simp only [Rep] at q4
  subst q4
  have q5 := h₅.2
  simp only [Rep] at q5
  obtain ⟨t, rfl⟩ := q5
  have k5 := h₄.1.trans h₅.1
  refine FD.setItem (F3.keeps k5) hν own (r1.keeps k5) hi hsz fun s₆ F6 le => ?_
  have r2' := Rep.mono le _ _ (r2.keeps k5)
  refine assignInOrder_cons (wp_assign_sub (wpAny_mono (ho2 _ E F6) (fun ov s₇ h₇ => wpAny_mono (hi2 s₇ E (F6.keeps h₇.1)) (fun iv s₈ h₈ => ?_) fun _ _ e => e) fun _ _ e => e))
  have q7 := h₇.2
  simp only [Rep] at q7
  subst q7
  have q8 := h₈.2
  simp only [Rep] at q8
  obtain ⟨t', rfl⟩ := q8
  have k8 := h₇.1.trans h₈.1
  refine FD.setItem (F6.keeps k8) updM_self own (r2'.keeps k8) (by rw [List.length_set]; exact hj) (by rw [List.length_set]; exact hsz) fun s₉ F9 _ => assignInOrder_nil ?_
  have e0 : updM (updM ν a (l.set i d1)) a ((l.set i d1).set j d2) = updM ν a ((l.set i d1).set j d2) := by
    funext b; unfold updM; split <;> rfl
  rw [e0] at F9
  exact hr _ F9
end

/-- a bend of the logs -/
def bend (logs : List (List Nat)) (number : Int) : List (List Nat) :=
  let r := (number % 12).toNat
  let p := (number / 12 % 8).toNat
  let log := logs.getD r []
  if p + 1 < log.length then logs.set r ((log.set p (log.getD (p + 1) 0)).set (p + 1) (log.getD p 0)) else logs
/-- the logs of the deeds -/
def logsOf (deeds : List (Nat × Nat × Nat)) : List (List Nat) := (List.range 12).map fun r => (List.range deeds.length).filter fun k => decide (r ∈ [(deeds.getD k (0, 0, 0)).1, (deeds.getD k (0, 0, 0)).2.1])

theorem updM_comm {ν : Muts} {a b : Addr} {l k : List D} (h : b ≠ a) : updM (updM ν a l) b k = updM (updM ν b k) a l := by
  funext x; unfold updM
  by_cases q : x = a
  · subst q; simp [Ne.symm h]
  · simp [q]

theorem bend_small {logs : List (List Nat)} {B : Nat} (n : Int) (h : ∀ l ∈ logs, l.length ≤ B) : ∀ l ∈ bend logs n, l.length ≤ B := by
  unfold bend
  dsimp only
  split
  · intro l hl
    rcases List.mem_or_eq_of_mem_set hl with q | q
    · exact h l q
    · subst q
      rw [List.length_set, List.length_set, List.getD_eq_getElem?_getD]
      cases q : logs[(n % 12).toNat]? with
      | none => simp
      | some l => exact h l (List.mem_of_getElem? q)
  · exact h
theorem bends_small {B : Nat} (ns : List Int) : ∀ {logs : List (List Nat)}, (∀ l ∈ logs, l.length ≤ B) → ∀ l ∈ ns.foldl bend logs, l.length ≤ B := by
  induction ns with
  | nil => exact fun h => h
  | cons n ns ih => exact fun h => ih (bend_small n h)
theorem logsOf_small (deeds : List (Nat × Nat × Nat)) : ∀ l ∈ logsOf deeds, l.length ≤ deeds.length := by
  intro l hl
  simp only [logsOf, List.mem_map] at hl
  obtain ⟨r, _, rfl⟩ := hl
  exact Nat.le_trans (List.length_filter_le _ _) (by simp)

abbrev dl (d : Nat × Nat × Nat) : D := nl [d.1, d.2.1, d.2.2]

variable {P : Params} {prog : Program} {w : World} {hL : Heap}
theorem logs_at (h : HL P hL) : DefAt hL 115 (fdAt P 115) (bodyAt P 115) ["deeds", "bends"] := def_at h 115 _ 114

theorem bend_len (logs : List (List Nat)) (n : Int) : (bend logs n).length = logs.length := by
  unfold bend; dsimp only; split <;> simp
theorem bends_len (ns : List Int) : ∀ (logs : List (List Nat)), (ns.foldl bend logs).length = logs.length := by
  induction ns with
  | nil => intro logs; rfl
  | cons n ns ih => intro logs; rw [List.foldl_cons, ih, bend_len]

theorem logs_pure (h : HL P hL) (deeds : List (Nat × Nat × Nat)) (hd : deeds.length ≤ 8) (bends : List Int) (hb : bends.length ≤ 8) : Pure prog w hL 115 1 [.list (deeds.map dl), li bends] (nll (bends.foldl bend (logsOf deeds))) := by
  refine pure_of (logs_at h) rfl (fun vs hv => ?_) fun A s H room => ?_
  · match vs, hv with
    | [_, _], _ => rfl
  · have S : Std P (pcx prog w A hL P 115 s H) := pcx_std h
    refine Ex.assignCompM (QI := fun ν₁ ds => ν₁ = noMuts ∧ ds = (List.range 12).map nt)
      (fun ν₁ ds i ν' out => ∃ as : List Addr, as.length = i ∧ as.Nodup ∧ i ≤ 12 ∧ out = as.map (fun a => D.val (.ref a)) ∧ ν' = kn as (((logsOf deeds).take i).map fun l => l.map nt))
      (EvIM.ofEvI (EvI.rangeN (Ev.builtin S Boot.«range») (Ev.nat 12) room.handled (by omega)) ⟨rfl, rfl⟩) (by kernel_rfl) (by decide) (Or.inl (by kernel_rfl)) ?_ ?_
    · rintro ν₁ ds ⟨rfl, rfl⟩
      refine ⟨by simp, ⟨[], rfl, List.nodup_nil, by omega, rfl, rfl⟩, ?_, ?_⟩
      · rintro i ν' out ⟨as, rfl, _, _, rfl, _⟩
        simp
      · rintro s C H g i d ν' out hH hdi ⟨as, rfl, hn, _, rfl, rfl⟩
        obtain ⟨r, hr, rfl⟩ := map_get hdi
        have hr' : r = as.length ∧ as.length < 12 := by
          have h1 := (List.getElem?_eq_some_iff.mp hr).1
          have h2 := (List.getElem?_eq_some_iff.mp hr).2
          simp at h1 h2
          exact ⟨h2.symm, h1⟩
        obtain ⟨rfl, hlt⟩ := hr'
        refine ⟨true, EvT.nil, (fun e => Bool.noConfusion e), fun _ g' => ?_⟩
        refine EvM.mono (EvNew.evM (CompTo.evNew (CompTo.one nt (List.range deeds.length) (fun k => decide (as.length ∈ [(deeds.getD k (0, 0, 0)).1, (deeds.getD k (0, 0, 0)).2.1])) nt
          (EvI.rangeN (Ev.builtin (S.compM ..) Boot.«range») (Ev.callB (Ev.builtin (S.compM ..) Boot.«len») (EvL.cons (Ev.name rfl) EvL.nil) (call_lenN (LD.data _) (by simp) (by omega))) room.handled (by omega)) (by kernel_rfl) (by decide) (by simp; omega)
          (fun s C H N g k hk => EvT.one (EvB.cmp (Ev.name rfl) (Ev.upto (l := [(deeds.getD k (0, 0, 0)).1, (deeds.getD k (0, 0, 0)).2.1, (deeds.getD k (0, 0, 0)).2.2]) (emb := nt) (Ev.itemN (ds := deeds.map dl) (Ev.name rfl) (Ev.name rfl) (LD.data _) (d := dl (deeds.getD k (0, 0, 0))) ?_ ?_) (LD.data _) (Ev.nat 2) ?_) (op_inN (LD.data _))))
          (fun s C H N g k hk _ => Ev.name rfl)) (by kernel_rfl))) ?_
        · have : k < deeds.length := by simpa using hk
          rw [List.getElem?_map, List.getElem?_eq_getElem this, List.getD_eq_getElem?_getD, List.getElem?_eq_getElem this]; rfl
        · simp; omega
        · simp
        · rintro ν'' y ⟨a, ha, rfl, rfl⟩
          have hlogs : (logsOf deeds).length = 12 := by simp [logsOf]
          have hna : a ∉ as := fun q => by
            obtain ⟨j, hj, e⟩ := List.mem_iff_getElem.mp q
            have hj2 : j < (((logsOf deeds).take as.length).map fun l => l.map nt).length := by simp [hlogs]; omega
            rw [kn_get hn (List.getElem?_eq_some_iff.mpr ⟨hj, e⟩) (List.getElem?_eq_getElem hj2)] at ha
            cases ha
          refine ⟨as ++ [a], by simp, ?_, by omega, by simp, ?_⟩
          · rw [List.nodup_append]
            exact ⟨hn, by simp, fun x hx y hy => by simp at hy; subst hy; rintro rfl; exact hna hx⟩
          · rw [kn_snoc (by simp [hlogs]; omega) hna, List.take_add_one, List.map_append]
            congr 2
            simp [logsOf, hlt]
    · rintro ν₁ ds ν' out a ⟨rfl, rfl⟩ ⟨as, hlen, hn, _, rfl, rfl⟩ h1 h2
      have hlen : as.length = 12 := by simpa using hlen
      have hlogs : (logsOf deeds).length = 12 := by simp [logsOf]
      have e12 : (logsOf deeds).take ((List.range 12).map nt).length = logsOf deeds := List.take_of_length_le (by simp [hlogs])
      rw [e12] at h1 ⊢
      have hna : a ∉ as := fun q => by
        obtain ⟨j, hj, e⟩ := List.mem_iff_getElem.mp q
        have hj2 : j < ((logsOf deeds).map fun l => l.map nt).length := by simp [hlogs]; omega
        rw [kn_get hn (List.getElem?_eq_some_iff.mpr ⟨hj, e⟩) (List.getElem?_eq_getElem hj2)] at h1
        cases h1
      have known : ∀ (ls : List (List Nat)) (r : Nat) (ar : Addr), ls.length = 12 → as[r]? = some ar → updM (kn as (ls.map fun l => l.map nt)) a (as.map fun a => D.val (.ref a)) ar = some ((ls.getD r []).map nt) := fun ls r ar hl hr => by
        have hne : ar ≠ a := fun q => hna (q ▸ List.mem_of_getElem? hr)
        have hr12 : r < ls.length := by have := (List.getElem?_eq_some_iff.mp hr).1; omega
        unfold updM
        rw [if_neg hne]
        exact kn_get hn hr (by rw [List.getElem?_map, List.getElem?_eq_getElem hr12, List.getD_eq_getElem?_getD, List.getElem?_eq_getElem hr12]; rfl)
      refine Ex.forLoop (ds := bends.map D.int) (fun i μ ν => μ "logs" = some (.val (.ref a)) ∧ ν = updM (kn as (((bends.take i).foldl bend (logsOf deeds)).map fun l => l.map nt)) a (as.map fun a => D.val (.ref a))) (fun _ _ => False)
        (EvI.list (Ev.name rfl) room.handled) (Or.inl (by kernel_rfl)) ⟨rfl, rfl⟩ ?_ (fun _ _ h => h.elim) ?_
      · rintro g i d μ' ν' hd' ⟨hl, rfl⟩
        obtain ⟨n, hn', rfl⟩ := map_get hd'
        have etake : (bends.take (i + 1)).foldl bend (logsOf deeds) = bend ((bends.take i).foldl bend (logsOf deeds)) n := by
          rw [List.take_add_one, hn', List.foldl_append]; rfl
        generalize hcur : (bends.take i).foldl bend (logsOf deeds) = cur at *
        have hcl : cur.length = 12 := by rw [← hcur, bends_len, hlogs]
        have hr0 : 0 ≤ n % 12 := Int.emod_nonneg _ (by decide)
        have hr12 : n % 12 < 12 := Int.emod_lt_of_pos _ (by decide)
        have hp0 : 0 ≤ n / 12 % 8 := Int.emod_nonneg _ (by decide)
        have hp8 : n / 12 % 8 < 8 := Int.emod_lt_of_pos _ (by decide)
        obtain ⟨ar, har⟩ : ∃ ar, as[(n % 12).toNat]? = some ar := ⟨_, List.getElem?_eq_getElem (show (n % 12).toNat < as.length by omega)⟩
        have kr := known cur _ ar hcl har
        have hsm : ∀ l ∈ cur, l.length ≤ 8 := by
          rw [← hcur]
          exact bends_small _ fun l hl => Nat.le_trans (logsOf_small deeds l hl) hd
        have hsmall : (cur.getD (n % 12).toNat []).length ≤ 8 := by
          rw [List.getD_eq_getElem?_getD]
          cases q : cur[(n % 12).toNat]? with
          | none => simp
          | some l => exact hsm l (List.mem_of_getElem? q)
        generalize hr : (n % 12).toNat = r at *
        generalize hlog : cur.getD r [] = log at *
        refine Ex.assign (d := .val (.ref ar)) (Ev.item (Ev.name ?_) (Ev.bin (Ev.name rfl) Ev.int (op_mod (by decide))) (LD.known a (as.map fun a => D.val (.ref a)) updM_self) hr0 (by rw [hr, List.getElem?_map, har]; rfl) (by simp [hlen])) (Or.inl (by kernel_rfl)) ?_
        · exact hl
        refine Ex.assign (d := nt (n / 12 % 8).toNat) (Ev.of_eq (Ev.bin (Ev.bin (Ev.name rfl) Ev.int (op_div (by decide) (PyProof.noPylong_of_log2 (by decide +kernel)))) Ev.int (op_mod (by decide))) (by rw [nt, Int.toNat_of_nonneg hp0])) (Or.inl (by kernel_rfl)) ?_
        generalize hp : (n / 12 % 8).toNat = p at *
        have SC : Std P { pcx prog w A hL P 115 s H with g := g } := ⟨S.h, S.G, S.B⟩
        have ebend : bend cur n = if p + 1 < log.length then cur.set r ((log.set p (log.getD (p + 1) 0)).set (p + 1) (log.getD p 0)) else cur := by
          unfold bend
          simp only [hr, hp, hlog]
        refine Ex.ite (b := decide (p + 1 < log.length)) (EvB.cmp (Ev.bin (Ev.name rfl) (Ev.nat 1) op_addN) (Ev.callB (Ev.builtin SC Boot.«len») (EvL.cons (Ev.name rfl) EvL.nil) (call_lenN (LD.known ar _ kr) (by rw [List.length_map]) ?_)) op_ltN) (fun hb => ?_) (fun hb => ?_)
        · omega
        · have hlt : p + 1 < log.length := by simpa using hb
          refine Ex.setTwo room.handled kr (fun s F => (F.newM ar (by rw [kr]; rfl)).imp (fun q => by cases q) id)
            (EvL.cons (Ev.itemN (Ev.name rfl) (Ev.bin (Ev.name rfl) (Ev.nat 1) op_addN) (LD.known ar _ kr) (d := nt (log.getD (p + 1) 0)) ?_ ?_) (EvL.cons (Ev.itemN (Ev.name rfl) (Ev.name rfl) (LD.known ar _ kr) (d := nt (log.getD p 0)) ?_ ?_) EvL.nil))
            (Ev.name rfl) (Ev.name rfl) (Ev.name rfl) (Ev.bin (Ev.name rfl) (Ev.nat 1) op_addN) (by rw [List.length_map]; omega) (by rw [List.length_map]; omega) ?_ ?_
          · rw [List.getElem?_map, List.getElem?_eq_getElem hlt, List.getD_eq_getElem?_getD, List.getElem?_eq_getElem hlt]; rfl
          · rw [List.length_map]; omega
          · have hlt' : p < log.length := by omega
            rw [List.getElem?_map, List.getElem?_eq_getElem hlt', List.getD_eq_getElem?_getD, List.getElem?_eq_getElem hlt']; rfl
          · rw [List.length_map]; omega
          · rw [List.length_map]; omega
          · refine Ex.nil fun s₁ F₁ => Ex.then (Ex.nil fun s₂ F₂ => ⟨_, _, ⟨?_, ?_⟩, F₂⟩) s₁ F₁
            · exact hl
            · rw [etake, ebend, if_pos hlt, updM_comm (a := a) (b := ar) (fun q => hna (by rw [← q]; exact List.mem_of_getElem? har)), kn_set hn har (by rw [List.length_map]; omega), List.map_set, List.map_set, List.map_set]
        · have hlt : ¬ p + 1 < log.length := by simpa using hb
          refine Ex.nil fun s₁ F₁ => Ex.then (Ex.nil fun s₂ F₂ => ⟨_, _, ⟨?_, ?_⟩, F₂⟩) s₁ F₁
          · exact hl
          · rw [etake, ebend, if_neg hlt]
      · rintro μ' ν' ⟨hl, rfl⟩
        rw [List.length_map, List.take_length] at *
        generalize hcur : bends.foldl bend (logsOf deeds) = cur at *
        have hcl : cur.length = 12 := by rw [← hcur, bends_len, hlogs]
        refine Ex.nil fun s' F' => Ex.then (Ex.ret (Ev.name hl) fun v s' F hv => ⟨v, rfl, F.kp fun _ e => e, ?_⟩) s' F'
        simp only [Rep] at hv
        subst hv
        exact F.readMuts (ls := cur) updM_self (by rw [hlen, hcl]) fun r ar hr => known cur r ar hcl hr
end Mine
end
section
open PySem PySem.W PyProof.Rows Builtin Builtin.ObjectAttr
set_option autoImplicit false
set_option maxRecDepth 100000
set_option maxHeartbeats 1000000
namespace Mine
theorem slot_fn_ga : Slot "function" "__getattribute__" "object.__getattribute__" :=
  .of (owner := "object") (n := "__getattribute__") (by rw [typeLookup_type, builtinLookup_eq_fast]; kernel_rfl) (by decide +kernel) (by decide +kernel) (by decide +kernel)
    (by first | exact .inl (by decide +kernel) | exact .inr (by decide +kernel)) (by rw [isSubtype_type]; kernel_rfl)
theorem slot_fn_sa : Slot "function" "__setattr__" "object.__setattr__" :=
  .of (owner := "object") (n := "__setattr__") (by rw [typeLookup_type, builtinLookup_eq_fast]; kernel_rfl) (by decide +kernel) (by decide +kernel) (by decide +kernel)
    (by first | exact .inl (by decide +kernel) | exact .inr (by decide +kernel)) (by rw [isSubtype_type]; kernel_rfl)
theorem fn_read_none : typeLookup (.type "function") "read" = pure none := by rw [typeLookup_type, builtinLookup_eq_fast]; kernel_rfl
theorem entry_obj_ga : entryFor table "object.__getattribute__" = some Builtin.«object.__getattribute__» := entryFor_of_tree (by kernel_rfl)
theorem entry_obj_sa : entryFor table "object.__setattr__" = some Builtin.«object.__setattr__» := entryFor_of_tree (by kernel_rfl)
theorem args_obj_ga (a b : Value) : argsOk "object.__getattribute__" ⟨[a, b], []⟩ := by unfold argsOk; kernel_rfl
theorem args_obj_sa (a b c : Value) : argsOk "object.__setattr__" ⟨[a, b, c], []⟩ := by unfold argsOk; kernel_rfl

theorem meets_fn_ga (a d : Addr) (fd : FuncData) (sl : Array (Option Value)) (m : Str → Option Value) (r : Addr) (u : Tok) (hm : m "read" = some (.ref r)) :
    Meets (Builtin.«object.__getattribute__» ⟨[.ref a, .str "read" u], []⟩) (fun _ R s => s.heap.get? a = some { cls := .type "function", dict := some d, data := .func fd, slots := sl } ∧ s.heap.Ns d m ∧ R (.ok (.ret (.ref r))) s) :=
  Meets.of_wp fun prog w A R s hs => by
    obtain ⟨hp, g, dd, tk, os⟩ := s
    obtain ⟨hx, hn, hs⟩ := hs
    have hT : (⟨hp, g, dd, tk, os⟩ : Shared).TypeIs (.ref a) "function" := ⟨_, hx, rfl⟩
    have f1 := fn_read_none
    unfold Builtin.«object.__getattribute__»
    repeat (any_goals (first | assumption | (refine wpAny_nsGet hn ?_; rw [hm]) | wp_step))
    exact ⟨_, rfl, hs⟩

theorem fn_getAttr {prog : Program} {w : World} {A : Around} {E : Value → Shared → Prop} {s : Shared} {a d : Addr} {fd : FuncData} {sl : Array (Option Value)} {m : Str → Option Value} {r : Addr} {ex : Bool} {Q : Value → Shared → Prop}
    (hx : s.heap.get? a = some { cls := .type "function", dict := some d, data := .func fd, slots := sl }) (hn : s.heap.Ns d m) (hm : m "read" = some (.ref r)) (h : Q (.ref r) { s with toks := s.toks + 1 }) :
    wpAny (model prog w) A (getAttr (.ref a) "read" ex) Q E s := by
  obtain ⟨hp, g, dd, tk, os⟩ := s
  have hT : ∀ tk', (⟨hp, g, dd, tk', os⟩ : Shared).TypeIs (.ref a) "function" := fun _ => ⟨_, hx, rfl⟩
  have f3 := slot_fn_ga.lookup
  have f4 := slot_fn_ga.bind (.ref a)
  unfold getAttr getAttrBy
  cases ex <;>
  repeat (any_goals (first | assumption | exact hT _ | ((with_reducible show wpAny _ _ (call (Value.builtin "object.__getattribute__") _ _) _ _ _); refine call_meets slot_fn_ga (hT _) entry_obj_ga (args_obj_ga _ _) (meets_fn_ga a d fd sl m r _ hm) ⟨hx, hn, ?_⟩) | wp_step))
  all_goals exact wpAny_pure h

theorem fn_ga_none : typeLookup (.type "function") "__getattr__" = pure none := by rw [typeLookup_type, builtinLookup_eq_fast]; kernel_rfl
theorem fn_getMethod {prog : Program} {w : World} {A : Around} {E : Value → Shared → Prop} {s : Shared} {a d : Addr} {fd : FuncData} {sl : Array (Option Value)} {m : Str → Option Value} {r : Addr} {pl : Sem Bool} {Q : Value × List Value → Shared → Prop}
    (hx : s.heap.get? a = some { cls := .type "function", dict := some d, data := .func fd, slots := sl }) (hn : s.heap.Ns d m) (hm : m "read" = some (.ref r)) (h : Q (.ref r, []) { s with toks := s.toks + 1 }) :
    wpAny (model prog w) A (getMethod (.ref a) "read" pl) Q E s := by
  have hT : s.TypeIs (.ref a) "function" := ⟨_, hx, rfl⟩
  unfold getMethod
  refine wpAny_bind (wpAny_specialOf hT slot_fn_ga.lookup ?_)
  show wpAny _ _ (if (Manifest.canonical "object.__getattribute__" != "object.__getattribute__") = true then _ else _) Q E s
  rw [show (Manifest.canonical "object.__getattribute__" != "object.__getattribute__") = false by decide +kernel, if_neg Bool.false_ne_true]
  refine wpAny_bind (wpAny_specialOf hT fn_ga_none ?_)
  refine wpAny_bind (wpAny_specialOf hT fn_read_none ?_)
  exact wpAny_bind (fn_getAttr hx hn hm (wpAny_pure h))

theorem fn_mro : mroOf (.type "function") = pure [.type "function", .type "object"] := by kernel_rfl
theorem fn_refuse (self : Value) : refuseLoop self "__setattr__" [.type "function", .type "object"] = pure () := by kernel_rfl

theorem meets_fn_sa (a : Addr) (fd : FuncData) (sl : Array (Option Value)) (v : Value) (u : Tok) :
    Meets (Builtin.«object.__setattr__» ⟨[.ref a, .str "read" u, v], []⟩) (fun _ R s => s.heap.get? a = some { cls := .type "function", dict := none, data := .func fd, slots := sl } ∧
      ∀ h' tk d, s.heap.get? d = none → h'.get? a = some { cls := .type "function", dict := some d, data := .func fd, slots := sl } → h'.Ns d (fun x => if x = "read" then some v else none) → (∀ b o, b ≠ a → s.heap.get? b = some o → h'.get? b = some o) →
        R (.ok (.ret .none)) { s with heap := h', toks := tk }) :=
  Meets.of_wp fun prog w A R s hs => by
    obtain ⟨h, g, dd, tk, os⟩ := s
    obtain ⟨hx, hq⟩ := hs
    have hT : (⟨h, g, dd, tk, os⟩ : Shared).TypeIs (.ref a) "function" := ⟨_, hx, rfl⟩
    have f1 := fn_read_none
    have hpass := fn_refuse (.ref a)
    have hmro := fn_mro
    rw [osa_eq, refuse_eq]
    refine wpAny_bind (wpAny_bind (wpAny_typeOf hT (wpAny_bind (wpAny_of_eq hmro (wpAny_of_eq hpass ?_)))))
    refine wpAny_bind (wpAny_typeOf hT (wpAny_bind (wpAny_of_eq f1 (wpAny_bind (wpAny_pure ?_)))))
    dsimp only
    unfold storeInOwnDict
    refine wpAny_bind (wpAny_pure ?_)
    show wpAny _ _ (ownDictForStores (.ref a) >>= _) _ _ _
    unfold ownDictForStores instanceDict
    refine wpAny_bind (wpAny_bind (wpAny_loadPart hx ?_))
    dsimp only
    rw [if_neg (by rw [show typeHasDict (.type "function") = true from by kernel_rfl]; decide)]
    have hx₁ : (h.push { cls := .type "dict", data := .dict #[] }).get? a = some { cls := .type "function", dict := none, data := .func fd, slots := sl } := Heap.get?_push_of_some _ hx
    have hxs : a ≠ h.objs.size := Nat.ne_of_lt (Heap.lt_size hx)
    refine wpAny_bind (wpAny_alloc' ?_)
    refine wpAny_bind (wpAny_update' hx₁ ?_)
    unfold dictMade
    dsimp only
    rw [if_neg (by rw [show finalisedInACycleAlone "function" = false from by kernel_rfl]; decide)]
    refine wpAny_pure ?_
    dsimp only
    have hgd : ((h.push { cls := .type "dict", data := .dict #[] }).update a fun o => { cls := o.cls, dict := some h.objs.size, data := o.data, slots := o.slots }).get? h.objs.size
        = some { cls := .type "dict", data := .dict #[] } :=
      (Heap.get?_update_ne _ _ _ _ hxs.symm).trans (Heap.get?_push_at rfl rfl)
    have hnd : ((h.push { cls := .type "dict", data := .dict #[] }).update a fun o => { cls := o.cls, dict := some h.objs.size, data := o.data, slots := o.slots }).Ns h.objs.size (fun _ => none) :=
      ⟨_, #[], _, hgd, rfl, fun e he => absurd he (by simp), fun _ => rfl⟩
    unfold storeInDict newKeyGuard
    refine wpAny_bind (wpAny_pure (wpAny_bind (wpAny_nsSet1 (Heap.Ns1.of_empty hnd) fun h' hn' hs => ?_)))
    obtain ⟨oD, esD, epD, hoD, hdD, hcD⟩ := hn'.count (Within.cons "read" v Within.nil)
    refine wpAny_bind (wpAny_lookBehind hoD (by rw [hdD]; exact pastItsLine_dict (Nat.le_trans hcD (by rw [List.length_cons, List.length_nil, sizeLine_eq]; omega))) ?_)
    refine wpAny_pure ⟨_, rfl, hq h' _ h.objs.size (fresh_size (Nat.le_refl _)) ?_ ?_ fun b ob hb e => ?_⟩
    · refine (hs.2 a hxs).trans (Heap.get?_update_self _ hx₁ rfl)
    · obtain ⟨o', es, ep, e1, e2, e3, eu, e4⟩ := hn'
      exact ⟨o', es, ep, e1, e2, e3, fun y => by rw [e4 y]⟩
    · exact (hs.2 b (Nat.ne_of_lt (Heap.lt_size e))).trans ((Heap.get?_update_ne _ _ _ _ hb).trans (Heap.get?_push_of_some _ e))

theorem fn_setAttr {prog : Program} {w : World} {A : Around} {E : Value → Shared → Prop} {s : Shared} {a : Addr} {fd : FuncData} {sl : Array (Option Value)} {v : Value} {Q : Unit → Shared → Prop}
    (hx : s.heap.get? a = some { cls := .type "function", dict := none, data := .func fd, slots := sl })
    (h : ∀ h' tk d, s.heap.get? d = none → h'.get? a = some { cls := .type "function", dict := some d, data := .func fd, slots := sl } → h'.Ns d (fun x => if x = "read" then some v else none) → (∀ b o, b ≠ a → s.heap.get? b = some o → h'.get? b = some o) →
        Q () { s with heap := h', toks := tk }) :
    wpAny (model prog w) A (setAttr (.ref a) "read" v) Q E s := by
  obtain ⟨hp, g, dd, tk, os⟩ := s
  have hT : ∀ tk', (⟨hp, g, dd, tk', os⟩ : Shared).TypeIs (.ref a) "function" := fun _ => ⟨_, hx, rfl⟩
  have f3 := slot_fn_sa.lookup
  have f4 := slot_fn_sa.bind (.ref a)
  unfold setAttr callSpecial? specialOf
  repeat (any_goals (first | assumption | exact hT _ | ((with_reducible show wpAny _ _ (call (Value.builtin "object.__setattr__") _ _) _ _ _); refine call_meets slot_fn_sa (hT _) entry_obj_sa (args_obj_sa _ _ _) (meets_fn_sa a fd sl v _) ⟨hx, fun h' tk d h1 h2 h3 h4 => ?_⟩) | wp_step))
  exact h h' tk d h1 h2 h3 h4
end Mine
end
section
open PySem PySem.W PyProof.Rows
set_option autoImplicit false
set_option maxRecDepth 100000
namespace Mine

theorem libView_le {hL h : Heap} {H : Addr → Prop} {ν : Muts} (l : Lib hL h) (hH : ∀ b, H b → hL.get? b = none) (hν : ∀ b, (ν b).isSome = true → hL.get? b = none) : SeqLe (libView hL) (mask H ν h) := by
  intro b o e _
  unfold libView at e
  split at e
  · cases e
  · rename_i hb
    refine mask_some.mpr ⟨fun q => ?_, ?_, l.get b o hb e⟩
    · rw [hH b q] at e; cases e
    · cases q : ν b with
      | none => rfl
      | some l => rw [hν b (by rw [q]; rfl)] at e; cases e

/-- what is known of a def made within a def -/
structure CloAt (hL : Heap) (a : Addr) (fd : FuncData) (body : List Stmt) (ns : List Str) (capt : Vars) : Prop where
  at_ : ∃ o, hL.get? a = some o ∧ o.data = .func fd
  notTab : a ∉ tabs
  body_ : fd.body = .stmts body
  lim : hL.NoLimit
  code : ∃ cd, fd.code = .ref cd ∧ cd ∉ tabs ∧ hL.CodeRec fd.code fd.qualname
  plain : fd.scope.isCoroutine = false ∧ fd.scope.isGenerator = false ∧ fd.scope.kind = .function
  nodup : ns.Nodup
  kinds : ∀ n ∈ ns, fd.scope.names.lookup n = some .local
  nocell : ∀ x ∈ fd.scope.names, x.2 ≠ .cell
  apart : ∀ n n' b, fd.closure.lookup n = some b → fd.closure.lookup n' = some b → n = n'
  cells : ∃ cm : Str → Option Value, (∀ n b, fd.closure.lookup n = some b → b ∉ tabs ∧ hL.IsCell b (cm n)) ∧
    ∀ x d, capt x = some d → fd.scope.names.lookup x = some .free ∧ (fd.closure.lookup x).isSome = true ∧ ∃ v, cm x = some v ∧ Rep (libView hL) d v

def withParams (ns : List Str) (ds : List D) (capt : Vars) : Vars := fun x => match ofParams ns ds x with | some d => some d | none => capt x

theorem lookup_nodup {α : Type} : ∀ {l : List (Str × α)} {x : Str} {v : α}, (l.map (·.1)).Nodup → (x, v) ∈ l → l.lookup x = some v
  | (k, u) :: r, x, v, hn, h => by
    rw [List.map_cons, List.nodup_cons] at hn
    rw [List.lookup_cons]
    rcases List.mem_cons.mp h with e | e
    · cases e; simp
    · have : (x == k) = false := beq_false_of_ne fun q => hn.1 (List.mem_map.mpr ⟨(x, v), e, q⟩)
      rw [this]
      exact lookup_nodup hn.2 e
theorem zip_lookup {ns : List Str} {vs : List Value} (h : ns.Nodup) {x : Str} {v : Value} (hm : (x, v) ∈ ns.zip vs) : ((ns.zip vs).reverse).lookup x = some v := by
  have hm' : (x, v) ∈ (ns.zip vs).reverse := List.mem_reverse.mpr hm
  have nd : ((ns.zip vs).reverse.map (·.1)).Nodup := by
    rw [List.map_reverse]
    refine List.pairwise_reverse.mpr (List.Pairwise.imp (fun q => Ne.symm q) ?_)
    have : ((ns.zip vs).map (·.1)) = ns.take (ns.zip vs).length := by
      clear h hm hm'
      induction ns generalizing vs with
      | nil => simp
      | cons n ns ih =>
        cases vs with
        | nil => simp
        | cons u vs => simp only [List.zip_cons_cons, List.map_cons, List.length_cons, List.take_succ_cons, ih]
    rw [this]
    exact List.Pairwise.sublist (List.take_sublist _ _) h
  exact lookup_nodup nd hm'

theorem params_mem {g : View} : ∀ {ns : List Str} {ds : List D} {vs : List Value} {x : Str} {d : D}, Reps g ds vs → ofParams ns ds x = some d → ∃ v, (x, v) ∈ ns.zip vs ∧ Rep g d v
  | [], _, _, _, _, _, h => by simp [ofParams] at h
  | _ :: _, [], _, _, _, _, h => by simp [ofParams] at h
  | n :: ns, e :: ds, _, x, d, hr, h => by
    simp only [Reps] at hr
    obtain ⟨v, r, rfl, hv, hr⟩ := hr
    unfold ofParams at h
    by_cases q : x = n
    · subst q
      simp only [if_true] at h; cases h
      exact ⟨v, by simp, hv⟩
    · simp only [q, if_false] at h
      obtain ⟨u, hu, hd⟩ := params_mem hr h
      exact ⟨u, by simp [hu], hd⟩

/-- such a def is called -/
theorem call_clo {prog : Program} {w : World} {A : Around} {hL : Heap} {s : Shared} {X H : Addr → Prop} {ν : Muts} {R : Result → Shared → Prop} {a : Addr} {fd : FuncData} {body : List Stmt} {ns : List Str} {capt : Vars} {ds : List D} {vs : List Value}
    (K : CloAt hL a fd body ns capt) (hbind : bindArgs fd ⟨vs, []⟩ = pure (ns.zip vs)) (hroom : A.depth < recursionLimit) (hlib : Lib hL s.heap)
    (hid : ∀ b, H b → (s.heap.get? b).isSome = true) (hidL : ∀ b, H b → hL.get? b = none) (hmH : ∀ b, (ν b).isSome = true → ¬ H b)
    (hmut : ∀ b l, ν b = some l → hL.get? b = none ∧ ∃ us, s.heap.PlainList b us ∧ Reps (mask H ν s.heap) l us.toList) (hr : Reps (mask H ν s.heap) ds vs)
    (h : Ex ⟨prog, w, A.deeper (callEnv fd s.heap.objs.size a), hL, s, X, H, noView, callEnv fd s.heap.objs.size a, fun _ => false, fun b => (ν b).isSome = true⟩ (withParams ns ds capt) ν body
      (fun f s' => R (.ok (.ret (match f with | .ret v => v | _ => .none))) s')
      (fun e s' => wpAny (model prog w) (A.deeper (callEnv fd s.heap.objs.size a)) (leaving (callEnv fd s.heap.objs.size a) e) (fun _ s'' => R (.error e) s'') (fun e' s'' => R (.error e') s'') s')) :
    codeAny (model prog w) A (.call (.ref a) ⟨vs, []⟩) R s := by
  obtain ⟨o, ho, hfd⟩ := K.at_
  obtain ⟨cd, hcd, hct, hrec⟩ := K.code
  refine codeAny_call_def hroom (hlib.get _ _ K.notTab ho) hfd (hlib.nolimit K.lim) (hcd ▸ hlib.coderec hct (hcd ▸ hrec)) K.body_ (BindsTo.of_eq hbind) K.nocell (fun x hx => K.kinds x.1 (zip_fst_mem hx)) (fun h₀ hn hk => ?_) K.plain.1 K.plain.2.1 K.plain.2.2
  generalize hs₁ : ({ s with heap := h₀, toks := s.toks + (ns.zip vs).length } : Shared) = s₁
  have kp : Kp s s₁ := by subst hs₁; exact ⟨h₀, _, rfl, hk⟩
  have hn₁ : s₁.heap.Ns s.heap.objs.size (fun x => (ns.zip vs).reverse.lookup x) := by subst hs₁; exact hn
  refine h s₁ ?_
  obtain ⟨cm, hcm, hcap⟩ := K.cells
  exact {
    same := kp.elim fun h ⟨tk, e, _⟩ => ⟨h, tk, e⟩
    keep := fun b o' _ e => kp.get b o' e
    live := fun b o' e => by rw [kp.get b o' e]; rfl
    froz := fun b o' e => by cases e
    frozM := fun _ _ _ => rfl
    dom := fun _ h => h
    newM := fun _ h => Or.inl h
    lib := hlib.mono kp.get
    fn := K.plain.2.2
    hid := fun b hb => by
      obtain ⟨o', e⟩ := Option.isSome_iff_exists.mp (hid b hb)
      rw [kp.get b o' e]; rfl
    hidL := hidL
    mutH := hmH
    freshL := ⟨hlib.fresh (fresh_size (Nat.le_refl _)), fresh_size (Nat.le_refl _)⟩
    freshC := fun n b q _ => by cases q
    apart := K.apart
    vars := ⟨_, cm, hn₁, fun n b e => by
        have := hcm n b e
        obtain ⟨o', ho', hd'⟩ := this.2
        exact ⟨o', kp.get _ _ (hlib.get _ _ this.1 ho'), hd'⟩, fun x d e => by
      unfold withParams at e
      cases q : ofParams ns ds x with
      | some d' =>
        rw [q] at e; cases e
        obtain ⟨v, hv, hd⟩ := params_mem hr q
        exact ⟨v, Rep.keeps hd kp, Or.inl ⟨K.kinds x (zip_fst_mem hv), zip_lookup K.nodup hv⟩⟩
      | none =>
        rw [q] at e
        obtain ⟨h1, h2, v, h3, h4⟩ := hcap x d e
        exact ⟨v, Rep.keeps (Rep.mono (libView_le hlib hidL fun b hb => by
          obtain ⟨l, q⟩ := Option.isSome_iff_exists.mp hb
          exact (hmut b l q).1) _ _ h4) kp, Or.inr ⟨Or.inr h1, h2, h3⟩⟩⟩
    muts := fun b l e => by
      obtain ⟨h1, us, hp, hu⟩ := hmut b l e
      exact ⟨h1, us, hp.at fun o' e' => kp.get b o' e', Reps.keeps hu kp⟩ }

variable {prog : Program} {w : World} {hL : Heap} {ν : Muts}

theorem pure_clo {a : Addr} {fd : FuncData} {body : List Stmt} {ns : List Str} {capt : Vars} {ds : List D} {d : D} {need : Nat} (K : CloAt hL a fd body ns capt) (hlen : ns.length = ds.length)
    (hbind : ∀ vs : List Value, vs.length = ns.length → bindArgs fd ⟨vs, []⟩ = pure (ns.zip vs))
    (h : ∀ A s H, Room A need → Ex ⟨prog, w, A.deeper (callEnv fd s.heap.objs.size a), hL, s, fun _ => False, H, noView, callEnv fd s.heap.objs.size a, fun _ => false, fun b => (noMuts b).isSome = true⟩ (withParams ns ds capt) noMuts body
      (fun f s' => ∃ v, f = .ret v ∧ Kp s s' ∧ Rep (mask H noMuts s'.heap) d v) (fun _ _ => False)) : Pure prog w hL a need ds d := by
  intro A s vs H r hlib hid hidL hr
  refine call_clo (X := fun _ => False) (H := H) (ν := noMuts) K (hbind vs (by rw [hr.length, hlen])) (by have := r.depth; omega) hlib hid hidL (fun b e => by cases e) (fun b l e => by cases e) hr ?_
  intro s₁ F
  refine wpAny_mono (h A s H r s₁ F) (fun f s' hf => ?_) fun _ _ e => e.elim
  obtain ⟨v, rfl, k, hv⟩ := hf
  exact ⟨v, rfl, k, hv⟩

theorem proc_clo {a : Addr} {fd : FuncData} {body : List Stmt} {ns : List Str} {capt : Vars} {ds : List D} {X : Addr → Prop} {Q : Muts → D → Prop} {need : Nat} (K : CloAt hL a fd body ns capt) (hlen : ns.length = ds.length)
    (hbind : ∀ vs : List Value, vs.length = ns.length → bindArgs fd ⟨vs, []⟩ = pure (ns.zip vs))
    (h : ∀ A s H, Room A need → (∀ b, X b → (ν b).isSome = true) → Ex ⟨prog, w, A.deeper (callEnv fd s.heap.objs.size a), hL, s, X, H, noView, callEnv fd s.heap.objs.size a, fun _ => false, fun b => (ν b).isSome = true⟩ (withParams ns ds capt) ν body
      (fun f s' => ∃ v ν' d, f = .ret v ∧ Q ν' d ∧ Eff hL H X ν ν' s s' ∧ Rep (mask H ν' s'.heap) d v) (fun _ _ => False)) : Proc prog w hL a need X ν ds Q := by
  intro A s vs H r hlib hid hidL hmut hX hmH hr
  refine call_clo (X := X) (H := H) (ν := ν) K (hbind vs (by rw [hr.length, hlen])) (by have := r.depth; omega) hlib hid hidL hmH hmut hr ?_
  intro s₁ F
  refine wpAny_mono (h A s H r hX s₁ F) (fun f s' hf => ?_) fun _ _ e => e.elim
  obtain ⟨v, ν', d, rfl, q, e, hv⟩ := hf
  exact ⟨v, ν', d, rfl, q, e, hv⟩
end Mine
end
section
open PySem PySem.W PyProof.Rows
set_option autoImplicit false
set_option maxRecDepth 100000
namespace Mine
section
variable {c : Cx} {μ : Vars} {ν : Muts}

def bytesOf (l : List Nat) : Array UInt8 := byteArr (ofN l)
abbrev bl (l : List Nat) : D := .bytes (bytesOf l)
theorem bytesOf_list (l : List Nat) : (bytesOf l).toList = l.map fun n => n.toUInt8 := by simp [bytesOf, byteArr, ofN, Function.comp_def]
theorem bytesOf_size (l : List Nat) : (bytesOf l).size = l.length := by simp [bytesOf, byteArr_size]
theorem toU_toNat {n : Nat} (h : n < 256) : n.toUInt8.toNat = n := by
  simp [Nat.toUInt8]; omega

theorem call_bytes {d : D} {l : List Nat} (hd : LD ν d (l.map nt)) (hr : ∀ n ∈ l, n < 256) (hsz : l.length ≤ 16777216) (hh : c.A.handled = none) : CallIs c μ ν (.type "bytes") [d] (bl l) := fun s E vs F hv => by
  obtain ⟨v, rfl, hv2⟩ := hv.one
  obtain ⟨a, us, rfl, hL, hu⟩ := hd.open F hv2
  have hi : IntsAre us.toList (ofN l) := by rw [← ofN_map] at hu; exact hu.ints
  refine call_bytes_ints (vs := us.toList) (by simpa using hL) hi (fun n hn => ?_) (by rw [hi.length, sizeLine_eq]; simpa using hsz) hh fun h' t k hk => ⟨kp_of hk, ⟨_, rfl⟩⟩
  simp only [ofN, List.mem_map] at hn
  obtain ⟨m, hm, rfl⟩ := hn
  have := hr m hm
  omega

theorem call_lenB {l : List Nat} (hsz : l.length ≤ 16777216) : CallIs c μ ν (.builtin "len") [bl l] (nt l.length) := fun s E vs F hv => by
  obtain ⟨v, rfl, hv2⟩ := hv.one
  simp only [Rep] at hv2
  obtain ⟨t, rfl⟩ := hv2
  refine len_bytes (by rw [bytesOf_size]; omega) ⟨(Kp.tok s _).trans (Kp.tok _ _), ?_⟩
  simp only [Rep]
  exact ⟨_, by rw [bytesOf_size]⟩

theorem Ev.itemB {value slice : Expr} {pos : Pos} {l : List Nat} {k x : Nat} (hv : Ev c μ ν value (bl l)) (hi : Ev c μ ν slice (nt k)) (hx : l[k]? = some x) (hx256 : x < 256) (hsz : l.length ≤ 16777216)
    (hs : ∀ o i, subscripted slice false o i = operate [o, i] (getItem o i) := by intro _ _; with_unfolding_all rfl) : Ev c μ ν (.Subscript value slice pos) (nt x) := by
  refine Ev.sub hv hi fun s E a b F ra rb => ?_
  simp only [Rep] at ra rb
  obtain ⟨t, rfl⟩ := ra
  obtain ⟨u, rfl⟩ := rb
  have hlt : k < l.length := (List.getElem?_eq_some_iff.mp hx).1
  have e : bytesOf l = (bytesOf l).toList.toArray := by simp
  rw [e]
  refine tail_any (typeIs_bytes s _ t) PySem.W.FB.slot_bytes_getitem.lookup (getItem_bytes ?_ (by omega) ?_ ⟨Kp.tok s _, ?_⟩) (hs _ _)
  · rw [Array.length_toList, bytesOf_size]; omega
  · rw [Array.length_toList, bytesOf_size]; omega
  · simp only [Rep]
    refine ⟨s.toks, ?_⟩
    congr 1
    rw [bytesOf_list, Int.toNat_natCast, List.getD_eq_getElem?_getD, List.getElem?_map, hx]
    simp only [Option.map_some, Option.getD_some]
    rw [toU_toNat hx256]

theorem picked_run (l : List Nat) (i j : Nat) : KBy.picked (bytesOf l) (some (i : Int)) (some (j : Int)) = bytesOf ((l.take j).drop i) := by
  rw [KBc.picked_eq]
  simp only [Option.elim, clipAt_nat, bytesOf_size, bytesOf_list]
  have := cut_run (l.map fun n => n.toUInt8) i j
  rw [List.length_map] at this
  rw [this, ← List.map_take, ← List.map_drop, ← bytesOf_list]

theorem Ev.runB {value lower upper : Expr} {p pos : Pos} {l : List Nat} {i j : Nat} (hv : Ev c μ ν value (bl l)) (h1 : Ev c μ ν lower (nt i)) (h2 : Ev c μ ν upper (nt j)) (hsz : l.length ≤ 16777216) (ht : ∀ o r, letTemporaryGo value o r = pure () := by intro _ _; rfl) :
    Ev c μ ν (.Subscript value (.Slice (some lower) (some upper) none p) pos) (bl ((l.take j).drop i)) := by
  intro s E F
  refine Subscript_ (wpAny_mono (hv s E F) (fun a s₁ k₁ => ?_) fun _ _ e => e)
  refine wpAny_Slice (wpAny_mono (EvP.some h1 s₁ E (F.keeps k₁.1)) (fun vl s₂ k₂ => ?_) fun _ _ e => e)
  have F2 := (F.keeps k₁.1).keeps k₂.1
  refine wpAny_mono (EvP.some h2 s₂ E F2) (fun vu s₃ k₃ => ?_) fun _ _ e => e
  have F3 := F2.keeps k₃.1
  refine wpAny_mono (EvP.none (c := c) (μ := μ) (ν := ν) s₃ E F3) (fun vt s₄ k₄ => ?_) fun _ _ e => e
  have K : Kp s₁ s₄ := (k₂.1.trans k₃.1).trans k₄.1
  have ha := k₁.2
  simp only [Rep] at ha
  obtain ⟨t, rfl⟩ := ha
  have hvt : vt = .none := by cases k₄.2; rfl
  subst hvt
  refine tail_of_ItemOn ⟨"bytes", _, PySem.W.FB.slot_bytes_getitem.lookup, typeIs_bytes _ _ _, getItem_meets (typeIs_bytes _ _ _) (by decide) PySem.W.FB.slot_bytes_getitem PySem.W.FB.entry_bytes_getitem (PySem.W.FB.args_bytes_getitem_2 _ _) (KBc.meets_slice2 (bytesOf l) t _ k₂.2 k₃.2)
    ⟨Heap.IsSliceOf.new _ _ _ _, Nat.le_trans (KBc.size_picked_le _ _ _) (by rw [bytesOf_size, sizeLine_eq]; exact hsz), fun t' k => ⟨?_, ?_⟩⟩⟩ (by with_unfolding_all rfl) (fun r => ht _ r)
  · exact (k₁.1.trans K).trans ⟨_, _, rfl, fun _ _ e => Heap.get?_push_of_some _ e⟩
  · simp only [Rep]
    exact ⟨t', by rw [picked_run]⟩

/-- a call whose result is a new list -/
def CallNew (c : Cx) (μ : Vars) (ν : Muts) (f : Value) (ds : List D) (out : List D) : Prop :=
  ∀ s E vs, c.F μ ν s → Reps (mask c.H ν s.heap) ds vs → wpAny c.M c.A (call f vs) (fun v s' => ∃ a us, v = .ref a ∧ Kp s s' ∧ s.heap.get? a = none ∧ s'.heap.PlainList a us ∧ Reps (mask c.H (updM ν a out) s'.heap) out us.toList) E s
theorem CallNew.callM {f : Value} {ds out : List D} (h : CallNew c μ ν f ds out) : CallM c μ ν f ds (fun ν' d => ∃ a, ν a = none ∧ ν' = updM ν a out ∧ d = .val (.ref a)) := fun s E vs F hr => by
  refine wpAny_mono (h s E vs F hr) (fun v s' h' => ?_) fun _ _ e => e
  obtain ⟨a, us, rfl, k, ha, hp, hu⟩ := h'
  exact ⟨_, _, ⟨a, F.ν_none ha, rfl, rfl⟩, F.keepsMut k ha hp hu, rfl⟩
theorem CallNew.callIs {f : Value} {ds out : List D} (h : CallNew c μ ν f ds out) : CallIs c μ ν f ds (.list out) := fun s E vs F hr => by
  refine wpAny_mono (h s E vs F hr) (fun v s' h' => ?_) fun _ _ e => e
  obtain ⟨a, us, rfl, k, ha, ⟨n, hp⟩, hu⟩ := h'
  refine ⟨k, ?_⟩
  simp only [Rep]
  refine ⟨a, us, rfl, ⟨_, mask_some.mpr ⟨fun q => ?_, F.ν_none ha, hp⟩, rfl, rfl, n, rfl⟩, Reps.mono mask_updM_le _ _ hu⟩
  have := F.hid a q; rw [ha] at this; cases this

end

section
variable {prog : Program} {w : World} {A : Around} {E : Value → Shared → Prop} {s : Shared}

theorem wpAny_extend_bytes {R : Result → Shared → Prop} (hh : A.handled = none) (b : Array UInt8) (t : Tok) (S : Addr) (res : Value) (c₀ : Nat) (hS : s.heap.get? S = some { cls := .type "list", data := .seq #[] c₀ })
    (hR : ∀ h' tk acc' c', (∀ b o, b ≠ S → s.heap.get? b = some o → h'.get? b = some o) → h'.get? S = some { cls := .type "list", dict := none, data := .seq acc' c', slots := #[] } →
      ItemsOf (fun i v => ∃ c u, b[i]? = some c ∧ v = .int (c.toNat : Int) u) acc' b.size → R (.ok (.ret res)) { s with heap := h', toks := tk }) (hn : b.size ≤ sizeLine) :
    wpAny (model prog w) A.in1 (Builtin.List.listExtendWith (.ref S) (.bytes b t) res)
      (fun fin s' => match fin with | .done f => R (.ok f) s' | .again c' => c'.quiet = true ∧ codeAny (model prog w) A c' R s') (fun e s' => R (.error e) s') s := by
  have hSI : S ≠ s.heap.objs.size := Nat.ne_of_lt (Heap.lt_size hS)
  have hSf : S ∉ [s.heap.objs.size] := fun hm => hSI (List.mem_singleton.mp hm)
  unfold Builtin.List.listExtendWith
  refine wpAny_bind (wpAny_typeOf (T := "bytes") (typeIs_bytes s b t) ?_)
  have h1 : Builtin.List.listSameRef (.ref S) (.bytes b t) = false := rfl
  have h2 : (Value.type "bytes" == Value.type "list") = false := by decide
  have h3 : (Value.type "bytes" == Value.type "tuple") = false := by decide
  simp only [h1, h2, h3, Bool.or_false, Bool.false_eq_true, if_false]
  refine wpAny_bind (KBw.pyIter_bytes ?_)
  refine wpAny_bind (wpAny_holding ?_)
  unfold Builtin.List.listLengthHint
  refine wpAny_bind (wpAny_specialOf (T := "bytes") (typeIs_bytes _ b t) PySem.W.FB.slot_bytes_len.lookup ?_)
  wp_delta
  refine wpAny_bind (wpAny_isInstance (T := "bytes") (b := true) (typeIs_bytes _ b t) (by rw [isSubtype_type]; kernel_rfl) ?_)
  show wpAny _ _ (typeOf (Value.bytes b t) >>= _) _ _ _
  refine wpAny_bind (wpAny_typeOf (T := "bytes") (typeIs_bytes _ b t) ?_)
  refine wpAny_pure ?_
  rw [if_neg (by decide)]
  refine wpAny_pure ⟨plainId_quiet F.plain_extend_loop _, codeAny_extend_loopS (KBw.walks (prog := prog) (w := w) (A := A.in1) hh s.heap.objs.size b t).toS hn _ hSf _ b.size 0 _ _ _ rfl (Nat.zero_le _) ⟨_, Heap.get?_push_size _ rfl, rfl, rfl⟩ (Heap.get?_push_of_some _ hS) (ItemsOf.nil _) fun s' acc' c' hm hS' hacc => ?_⟩
  rw [Moved.eq_with hm]
  refine hR s'.heap s'.toks acc' c' (fun b ob hb e => hm.heap b ob (fun hmem => ?_) (Heap.get?_push_of_some _ e)) hS' hacc
  rcases List.mem_cons.mp hmem with e' | hmem
  · exact hb e'
  · exact absurd (Heap.lt_size e) (by rw [List.mem_singleton.mp hmem]; exact Nat.lt_irrefl _)

theorem wpAny_list_init_bytes {R : Result → Shared → Prop} (hh : A.handled = none) (b : Array UInt8) (t : Tok) (S : Addr) (hS : s.heap.get? S = some { cls := .type "list", data := .seq #[] })
    (hR : ∀ h' tk acc' c', (∀ b o, b ≠ S → s.heap.get? b = some o → h'.get? b = some o) → h'.get? S = some { cls := .type "list", dict := none, data := .seq acc' c', slots := #[] } →
      ItemsOf (fun i v => ∃ c u, b[i]? = some c ∧ v = .int (c.toNat : Int) u) acc' b.size → R (.ok (.ret .none)) { s with heap := h', toks := tk }) (hn : b.size ≤ sizeLine) :
    wpAny (model prog w) A.in1 (Builtin.«list.__init__» ⟨[.ref S, .bytes b t], []⟩)
      (fun fin s' => match fin with | .done f => R (.ok f) s' | .again c' => c'.quiet = true ∧ codeAny (model prog w) A c' R s') (fun e s' => R (.error e) s') s := by
  show wpAny _ _ (do let old ← Builtin.List.listItems (.ref S); Builtin.List.listUpdate (.ref S) (fun _ => #[]); letGo old.toList.reverse; Builtin.List.listExtendWith (.ref S) (.bytes b t) .none) _ _ s
  refine wpAny_bind ?_
  unfold Builtin.List.listItems
  refine wpAny_bind (wpAny_seqItems hS rfl (wpAny_pure ?_))
  show wpAny _ _ (updateSeq S (fun _ => #[]) >>= fun _ => letGo (#[] : Array Value).toList.reverse >>= fun _ => Builtin.List.listExtendWith (.ref S) (.bytes b t) .none) _ _ s
  refine wpAny_bind (wpAny_updateSeq hS rfl ?_)
  have hS₂ := Heap.get?_update_self (Obj.mapSeq (fun _ => (#[] : Array Value))) hS rfl
  have oth : ∀ b o, b ≠ S → s.heap.get? b = some o → (s.heap.update S (Obj.mapSeq (fun _ => (#[] : Array Value)))).get? b = some o :=
    fun b o hb e => (Heap.get?_update_other _ _ (Ne.symm hb)).trans e
  refine wpAny_bind (wpAny_letGo ?_)
  refine wpAny_extend_bytes (hn := hn) hh b t S .none _ hS₂ fun h' tk acc' c' hk hS' hacc => ?_
  exact hR h' tk acc' c' (fun b o hb e => hk b o hb (oth b o hb e)) hS' hacc

theorem call_list_bytes {Q : Value → Shared → Prop} (hh : A.handled = none) (b : Array UInt8) (t : Tok)
    (hQ : ∀ h' tk acc' c', (∀ b o, s.heap.get? b = some o → h'.get? b = some o) →
      h'.get? s.heap.objs.size = some { cls := .type "list", dict := none, data := .seq acc' c', slots := #[] } → ItemsOf (fun i v => ∃ c u, b[i]? = some c ∧ v = .int (c.toNat : Int) u) acc' b.size → Q (.ref s.heap.objs.size) { s with heap := h', toks := tk }) (hn : b.size ≤ sizeLine) :
    wpAny (model prog w) A (call (.type "list") [.bytes b t]) Q E s := by
  refine callType_codes (Q₁ := fun obj s₁ => obj = .ref s.heap.objs.size ∧ s₁ = { s with heap := s.heap.push { cls := .type "list", data := .seq #[] } }) F.called_list (F.typeCall_list_1 _) F.entry_list_init
    (code_list_new _ ⟨rfl, rfl⟩) fun obj s₁ h₁ => ?_
  obtain ⟨rfl, rfl⟩ := h₁
  have hS : (s.heap.push { cls := .type "list", data := .seq #[] }).get? s.heap.objs.size = some { cls := .type "list", data := .seq #[] } := Heap.get?_push_size _ rfl
  refine ⟨⟨_, hS, rfl⟩, F.args_list_init_2 _ _, wpAny_list_init_bytes (A := A.in1) (hn := hn) hh b t _ hS fun h' tk acc' c' hk hS' hacc => ?_⟩
  exact ⟨rfl, hQ h' tk acc' c' (fun b o e => hk b o (Nat.ne_of_lt (Heap.lt_size e)) (Heap.get?_push_of_some _ e)) hS' hacc⟩
end

section
variable {c : Cx} {μ : Vars} {ν : Muts}
theorem call_listB {l : List Nat} (hr : ∀ n ∈ l, n < 256) (hsz : l.length ≤ 16777216) (hh : c.A.handled = none) : CallNew c μ ν (.type "list") [bl l] (l.map nt) := fun s E vs F hv => by
  obtain ⟨v, rfl, hv2⟩ := hv.one
  simp only [Rep] at hv2
  obtain ⟨t, rfl⟩ := hv2
  refine call_list_bytes hh (bytesOf l) t (fun h' tk acc' c' hk hacc hit => ?_) (by rw [bytesOf_size, sizeLine_eq]; exact hsz)
  refine ⟨_, acc', rfl, ⟨h', tk, rfl, hk⟩, fresh_size (Nat.le_refl _), ⟨c', hacc⟩, Reps.of_get ?_ fun i d v hd hv => ?_⟩
  · rw [Array.length_toList, hit.1, bytesOf_size, List.length_map]
  · have hv' : acc'[i]? = some v := by simpa using hv
    obtain ⟨b, u, hb, rfl⟩ := hit.2 i v hv'
    obtain ⟨n, hn, rfl⟩ := map_get hd
    simp only [Rep]
    refine ⟨u, ?_⟩
    have e : (bytesOf l)[i]? = some n.toUInt8 := by
      rw [← Array.getElem?_toList, bytesOf_list, List.getElem?_map, hn]; rfl
    rw [e] at hb
    cases hb
    rw [toU_toNat (hr n (List.mem_of_getElem? hn))]
end
end Mine
end
section
open PySem PySem.W PyProof.Rows
set_option autoImplicit false
set_option maxRecDepth 100000
namespace Mine

def stBody : Stmt → List Stmt
  | .FunctionDef _ _ b _ _ _ _ _ _ _ => b
  | _ => []
def stScope : Stmt → Scope
  | .FunctionDef _ _ _ _ _ _ s _ _ _ => s
  | _ => default
noncomputable def stmtAt (P : Params) (a n : Nat) : Stmt := (bodyAt P a).getD n default

section
variable {c : Cx} {μ : Vars} {ν : Muts} {P : Flow → Shared → Prop} {E : Value → Shared → Prop} {rest : List Stmt}

/-- an item of a known list is set -/
theorem Ex.setOne {o i e : Expr} {p pos : Pos} {a : Addr} {l : List D} {d : D} {k : Nat} (hν : ν a = some l) (own : ∀ s, c.F μ ν s → c.X a ∨ c.s₀.heap.get? a = none) (he : Ev c μ ν e d) (ho : Ev c μ ν o (.val (.ref a))) (hi : Ev c μ ν i (nt k))
    (hk : k < l.length) (hsz : l.length ≤ 16777216) (hr : Ex c μ (updM ν a (l.set k d)) rest P E) (hs : swapsWith e (some (.Subscript o i p)) pos.line c.env = pure false := by rfl) :
    Ex c μ ν (.Assign [.Subscript o i p] e pos :: rest) P E := by
  refine Ex.cons fun s F => wpAny_Assign_Subscript (wpAny_mono (he s E F) (fun v s₁ h₁ => ?_) fun _ _ e => e) hs
  have F1 := F.keeps h₁.1
  refine wpAny_mono (ho s₁ E F1) (fun ov s₂ h₂ => wpAny_mono (hi s₂ E (F1.keeps h₂.1)) (fun iv s₃ h₃ => ?_) fun _ _ e => e) fun _ _ e => e
  have q2 := h₂.2
  simp only [Rep] at q2
  subst q2
  have q3 := h₃.2
  simp only [Rep] at q3
  obtain ⟨t, rfl⟩ := q3
  have k3 := h₂.1.trans h₃.1
  exact FD.setItem (F1.keeps k3) hν (own s F) (h₁.2.keeps k3) hk hsz fun s₄ F4 _ => hr s₄ F4

theorem call_min2N {a b : Nat} (hh : c.A.handled = none) : CallIs c μ ν (.builtin "min") [nt a, nt b] (nt (min a b)) := by
  have h := call_min2 (c := c) (μ := μ) (ν := ν) (a := (a : Int)) (b := (b : Int)) hh
  rw [show min (a : Int) (b : Int) = ((min a b : Nat) : Int) by omega] at h
  exact h

theorem EvB.of_eq {e : Expr} {b b' : Bool} (h : EvB c μ ν e b) (q : b = b') : EvB c μ ν e b' := q ▸ h
theorem Ex.assertN {test : Expr} {msg : Option Expr} {pos : Pos} (ht : EvB c μ ν test true) (hr : Ex c μ ν rest P E) : Ex c μ ν (.Assert test msg pos :: rest) P E :=
  Ex.cons fun s F => wpAny_Assert_holds (wpAny_mono (ht s E F) (fun _ s₁ h₁ => ⟨h₁.2, hr s₁ (F.keeps h₁.1)⟩) fun _ _ e => e)

/-- an attribute of a function object is called -/
theorem EvM.callAttr {x : Str} {p apos pos : Pos} {a d r : Addr} {fd fr : FuncData} {sl : Array (Option Value)} {orr : Obj} {m : Str → Option Value} {e : Expr} {es : List Expr} {ds : List D} {Q : Muts → D → Prop} (hf : Ev c μ ν (.Name x p) (.val (.ref a)))
    (ha : c.hL.get? a = some { cls := .type "function", dict := some d, data := .func fd, slots := sl }) (hat : a ∉ tabs) (hn : c.hL.Ns d m) (hdt : d ∉ tabs) (hm : m "read" = some (.ref r)) (hr : c.hL.get? r = some orr) (hrf : orr.data = .func fr) (hrt : r ∉ tabs)
    (hargs : EvL c μ ν pos (e :: es) ds) (hc : CallM c μ ν (.ref r) ds Q)
    (he : starEach (e :: es) c.env = (false, eval e c.env) :: starEach es c.env := by rfl) (hp : (backTo pos (starEach es c.env)).any (·.1) = false := by rfl)
    {pl : Sem Bool} (hform : eval (.Call (.Attribute (.Name x p) "read" apos) (e :: es) [] pos) c.env = (do
      let ov ← eval (.Name x p) c.env
      standAt apos.atName
      let (f, first) ← holding [ov] (getMethod ov "read" pl)
      callWith pos f first (backTo pos (starEach (e :: es) c.env)) []) := by rfl) :
    EvM c μ ν (.Call (.Attribute (.Name x p) "read" apos) (e :: es) [] pos) Q := by
  intro s E F
  refine MethodCall_ (pl := pl) (wpAny_mono (hf s E F) (fun ov s₁ h₁ => ?_) fun _ _ e => e) hform
  have q := h₁.2
  simp only [Rep] at q
  subst q
  have F1 := F.keeps h₁.1
  refine fn_getMethod (F1.lib.get a _ hat ha) (F1.lib.ns hdt hn) hm ?_
  have k2 := Kp.tok s₁ (s₁.toks + 1)
  have F2 := F1.keeps k2
  have fnAt : ∀ s', c.F μ ν s' → FnAt r s'.heap := fun s' F' => by
    have := F'.lib.get r _ hrt hr
    obtain ⟨oc, od, odt, osl⟩ := orr
    simp only at hrf
    subst hrf
    exact ⟨oc, od, fr, osl, this⟩
  refine callWith_F (first := []) (fnAt _ F2) (wpAny_mono (hargs _ E F2) (fun vs s₃ h₃ => ?_) fun _ _ e => e) he hp
  have F3 := F2.keeps h₃.1
  exact ⟨fnAt _ F3, hc s₃ E vs F3 h₃.2⟩
end

variable {P : Params} {prog : Program} {w : World} {hL : Heap} {ν : Muts}

/-- what the stream of the law's text is, in the known heap -/
structure StreamAt (P : Params) (hL : Heap) (a : Addr) (octets : List Nat) (Lp : Addr) : Prop where
  fn : ∃ d r fd sl m orr fr, hL.get? a = some { cls := .type "function", dict := some d, data := .func fd, slots := sl } ∧ a ∉ tabs ∧ hL.Ns d m ∧ d ∉ tabs ∧ m "read" = some (.ref r) ∧ hL.get? r = some orr ∧ orr.data = .func fr ∧ r ∉ tabs ∧
    (fr.scope = stScope (stmtAt P 103 2) ∧ (∀ v, bindArgs fr ⟨[v], []⟩ = pure [(("count" : Str), v)]) ∧ fr.globals = mainGlobals ∧ fr.builtins = builtinsNs) ∧
    CloAt hL r fr (stBody (stmtAt P 103 2)) ["count"] (fun x => if x = "octets" then some (bl octets) else if x = "place" then some (.val (.ref Lp)) else none)

theorem clo_std (h : HL P hL) {A : Around} {fd : FuncData} {L r : Addr} {s : Shared} {X H N : Addr → Prop} {g : View} (hG : fd.globals = mainGlobals := by rfl) (hB : fd.builtins = builtinsNs := by rfl) :
    Std P ⟨prog, w, A, hL, s, X, H, g, callEnv fd L r, fun _ => false, N⟩ := ⟨h, hG, hB⟩

theorem read_proc (h : HL P hL) {r Lp : Addr} {fr : FuncData} {octets : List Nat} (K : CloAt hL r fr (stBody (stmtAt P 103 2)) ["count"] (fun x => if x = "octets" then some (bl octets) else if x = "place" then some (.val (.ref Lp)) else none))
    (hs : fr.scope = stScope (stmtAt P 103 2)) (hpar : ∀ v, bindArgs fr ⟨[v], []⟩ = pure [(("count" : Str), v)]) (hG : fr.globals = mainGlobals) (hB : fr.builtins = builtinsNs) {pos n : Nat} (hν : ν Lp = some [nt pos]) (hsz : octets.length ≤ 16777216) :
    Proc prog w hL r 1 (fun b => b = Lp) ν [nt n] (fun ν' d => ν' = updM ν Lp [nt (min octets.length (pos + n))] ∧ d = bl ((octets.take (min octets.length (pos + n))).drop pos)) := by
  rcases fr with ⟨⟩
  dsimp only at hs hG hB
  subst hs hG hB
  refine proc_clo K rfl (fun vs hv => ?_) fun A s H room hX => ?_
  · obtain ⟨v, rfl⟩ := List.length_eq_one_iff.mp hv
    exact hpar v
  · refine Ex.assign (Ev.itemN (Ev.name rfl) (Ev.nat 0) (LD.known Lp _ hν) rfl (by simp)) (Or.inl (by kernel_rfl)) ?_
    refine Ex.setOne hν (fun _ _ => Or.inl rfl) (Ev.callB (Ev.builtin (clo_std h) Boot.«min») (EvL.cons (Ev.callB (Ev.builtin (clo_std h) Boot.«len») (EvL.cons (Ev.name rfl) EvL.nil) (call_lenB hsz)) (EvL.cons (Ev.bin (Ev.name rfl) (Ev.name rfl) op_addN) EvL.nil)) (call_min2N room.handled))
      (Ev.name rfl) (Ev.nat 0) (by simp) (by simp) ?_
    refine Ex.ret (Ev.runB (Ev.name rfl) (Ev.name rfl) (Ev.itemN (Ev.name rfl) (Ev.nat 0) (LD.known Lp _ updM_self) rfl (by simp)) hsz) ?_
    intro v s' F hv
    exact ⟨v, _, _, rfl, ⟨rfl, rfl⟩, Eff.of F rfl fun b => Iff.rfl, hv⟩

theorem uint1_at (h : HL P hL) : DefAt hL 35 (fdAt P 35) (bodyAt P 35) ["f"] := def_at h 35 _ 34
theorem bytes1_at (h : HL P hL) : DefAt hL 42 (fdAt P 42) (bodyAt P 42) ["f"] := def_at h 42 _ 41

theorem uint1_proc (h : HL P hL) {a Lp : Addr} {octets : List Nat} (K : StreamAt P hL a octets Lp) {pos x : Nat} (hν : ν Lp = some [nt pos]) (hsz : octets.length ≤ 16777216) (hx : octets[pos]? = some x) (hx256 : x < 256) :
    Proc prog w hL 35 2 (fun b => b = Lp) ν [.val (.ref a)] (fun ν' d => ν' = updM ν Lp [nt (pos + 1)] ∧ d = nt x) := by
  obtain ⟨d, r, fd, sl, m, orr, fr, h1, h2, h3, h4, h5, h6, h7, h8, ⟨g1, g2, g3, g4⟩, K'⟩ := K.fn
  have hlt : pos < octets.length := (List.getElem?_eq_some_iff.mp hx).1
  have e1 : min octets.length (pos + 1) = pos + 1 := by omega
  have e2 : (octets.take (min octets.length (pos + 1))).drop pos = [x] := by
    rw [e1, List.drop_take]
    have : pos + 1 - pos = 1 := by omega
    rw [this, List.drop_eq_getElem_cons hlt]
    have := (List.getElem?_eq_some_iff.mp hx).2
    simp [this]
  refine proc_of (uint1_at h) rfl (fun vs hv => ?_) fun A s H room hX => ?_
  · obtain ⟨v, rfl⟩ := List.length_eq_one_iff.mp hv
    rfl
  · refine Ex.assignM (EvM.callAttr (Ev.name rfl) h1 h2 h3 h4 h5 h6 h7 h8 (EvL.cons (Ev.nat 1) EvL.nil) (CallM.ofProc (need := 1) room.deeper (read_proc (n := 1) h K' g1 g2 g3 g4 hν hsz) fun b hb => ⟨hX b hb, Or.inl hb⟩)) (Or.inl (by kernel_rfl)) ?_
    rintro ν' y ⟨rfl, rfl⟩
    rw [e2, e1]
    refine Ex.ite (EvB.bytes (Ev.name rfl) (by rw [bytesOf_size]; simp)) (fun _ => ?_) (fun e => ?_)
    · refine Ex.ret (Ev.itemB (Ev.name rfl) (Ev.nat 0) rfl hx256 (by simp)) fun v s' F hv => ?_
      exact ⟨v, _, _, rfl, ⟨rfl, rfl⟩, Eff.of F rfl fun b => Iff.rfl, hv⟩
    · rw [bytesOf_size] at e; simp at e

theorem bytes1_proc (h : HL P hL) {a Lp : Addr} {octets : List Nat} (K : StreamAt P hL a octets Lp) {pos n : Nat} {l : List Nat} (hν : ν Lp = some [nt pos]) (hsz : octets.length ≤ 16777216) (hx : octets[pos]? = some n) (hx256 : n < 256)
    (hl : (octets.drop (pos + 1)).take n = l) (hn : l.length = n) :
    Proc prog w hL 42 3 (fun b => b = Lp) ν [.val (.ref a)] (fun ν' d => ν' = updM ν Lp [nt (pos + 1 + n)] ∧ d = bl l) := by
  obtain ⟨d, r, fd, sl, m, orr, fr, h1, h2, h3, h4, h5, h6, h7, h8, ⟨g1, g2, g3, g4⟩, K'⟩ := K.fn
  have hlen : pos + 1 + n ≤ octets.length := by
    have e := congrArg List.length hl
    rw [List.length_take, List.length_drop, hn] at e
    have hlt : pos < octets.length := (List.getElem?_eq_some_iff.mp hx).1
    omega
  have e1 : min octets.length (pos + 1 + n) = pos + 1 + n := by omega
  have e2 : (octets.take (min octets.length (pos + 1 + n))).drop (pos + 1) = l := by
    rw [e1, List.drop_take, ← hl]
    congr 1
    omega
  refine proc_of (bytes1_at h) rfl (fun vs hv => ?_) fun A s H room hX => ?_
  · obtain ⟨v, rfl⟩ := List.length_eq_one_iff.mp hv
    rfl
  · have S : Std P ⟨prog, w, A.deeper (callEnvC (fdAt P 42) s.heap.objs.size 42), hL, s, fun b => b = Lp, H, noView, callEnvC (fdAt P 42) s.heap.objs.size 42, fun _ => true, fun b => (ν b).isSome = true⟩ := ⟨h, by kernel_rfl, by kernel_rfl⟩
    obtain ⟨o35, ho35, hfd35⟩ := (uint1_at h).obj
    refine Ex.assignM (EvM.callF (Ev.global S) ho35 hfd35 (by decide) (EvL.cons (Ev.name rfl) EvL.nil) (CallM.ofProc (need := 2) room.deeper (uint1_proc h K hν hsz hx hx256) fun b hb => ⟨hX b hb, Or.inl hb⟩)) (Or.inl (by kernel_rfl)) ?_
    rintro ν' y ⟨rfl, rfl⟩
    refine Ex.assertN (EvB.of_eq (EvB.cmp (Ev.name rfl) Ev.int op_ge) ?_) ?_
    · simp
    refine Ex.assignM (EvM.callAttr (Ev.name rfl) h1 h2 h3 h4 h5 h6 h7 h8 (EvL.cons (Ev.name rfl) EvL.nil) (CallM.ofProc (need := 1) (room.deeper.le (by omega)) (read_proc (n := n) h K' g1 g2 g3 g4 updM_self hsz) fun b hb => ⟨?_, Or.inl hb⟩)) (Or.inl (by kernel_rfl)) ?_
    · subst hb; rw [updM_self]; rfl
    rintro ν' y ⟨rfl, rfl⟩
    rw [e2, e1]
    refine Ex.ite (EvB.cmp (Ev.callB (Ev.builtin S Boot.«len») (EvL.cons (Ev.name rfl) EvL.nil) (call_lenB (by rw [hn]; omega))) (Ev.name rfl) op_eqN) (fun _ => ?_) (fun e => ?_)
    · refine Ex.ret (Ev.name rfl) fun v s' F hv => ?_
      refine ⟨v, _, _, rfl, ⟨?_, rfl⟩, Eff.of F rfl fun b => Iff.rfl, hv⟩
      funext b; unfold updM; split <;> rfl
    · simp [hn] at e
end Mine
end
section
open PySem PySem.W PyProof.Rows
set_option autoImplicit false
set_option maxRecDepth 100000
namespace Mine
section
variable {c : Cx} {μ : Vars} {ν : Muts}

theorem tab_fields (ps : Array Value) : Obj.isFields (tabObj ps) = true := rfl

/-- the same frame, a table grown -/
abbrev Cx.grown (c : Cx) (t : Addr) (ps : Array Value) : Cx := { c with g := fun b => if b = t then some (tabObj ps) else c.g b }

/-- a table of inner code grows -/
theorem FD.grow {s : Shared} {t : Addr} {ps ps' : Array Value} {h' : Heap} {tk : Nat} (F : c.F μ ν s) (ht : t ∈ tabs) (hX : c.X t) (hg : c.g t = some (tabObj ps)) (hk : ∀ b o, b ≠ t → s.heap.get? b = some o → h'.get? b = some o) (hn : h'.get? t = some (tabObj ps')) :
    FD (c.grown t ps') μ ν { s with heap := h', toks := tk } := by
  have hold := (F.froz t _ hg).1
  let c1 : Cx := { c with g := fun b => if b = t then none else c.g b }
  have F1 : FD c1 μ ν s := FD.lessG (c := c1) (g := c.g) F fun a o e => by
    have e : (if a = t then none else c.g a) = some o := e
    split at e
    · cases e
    · exact e
  have notT : ∀ a l, ν a = some l → a ≠ t := fun a l e q => by
    obtain ⟨_, vs, ⟨n, hp⟩, _⟩ := F.muts a l e
    rw [q, hold] at hp; cases hp
  have le : SeqLe (mask c.H ν s.heap) (mask c.H ν h') := mask_le fun b o _ hs e => hk b o (fun q => by rw [q, hold] at e; cases e; cases hs) e
  have eff : Eff c1.hL c1.H (fun b => b = t) ν ν s { s with heap := h', toks := tk } := {
    same := ⟨h', tk, rfl⟩
    keep := fun b o hb e => hk b o hb e
    live := fun b o e => by
      by_cases q : b = t
      · subst q
        have hn' : ({ s with heap := h', toks := tk } : Shared).heap.get? b = some (tabObj ps') := hn
        rw [hn']; rfl
      · have := hk b o q e
        have h2 : ({ s with heap := h', toks := tk } : Shared).heap.get? b = some o := this
        rw [h2]; rfl
    dom := fun _ h => h
    new := fun _ h => Or.inl h
    muts := fun a l e => by
      obtain ⟨h1, vs, hp, hr⟩ := F.muts a l e
      exact ⟨h1, vs, hp.at fun o e' => hk a o (notT a l e) e', Reps.mono le _ _ hr⟩ }
  have F2 : FD c1 μ ν { s with heap := h', toks := tk } := F1.back eff fun b hb => Or.inr ⟨hb ▸ ht, hb ▸ hX, by show (if b = t then none else c.g b) = none; rw [if_pos hb], _, hb ▸ hold, rfl⟩
  exact FD.setG (c := c1) F2 _ (fun a o e => by
    by_cases q : a = t
    · rw [if_pos q] at e; cases e
      exact ⟨q ▸ hn, Or.inr rfl⟩
    · rw [if_neg q] at e
      exact F2.froz a o (by show (if a = t then none else c.g a) = some o; rw [if_neg q]; exact e)) (fun a l e => by
    have q := notT a l e
    show (if a = t then some (tabObj ps') else c.g a) = none
    rw [if_neg q]
    exact F.frozM a l e)

/-- what is known behind a def or a lambda -/
structure Made (c : Cx) (μ : Vars) (ν : Muts) (t : Addr) (ps : Array Value) (y : Str) (s s' : Shared) (f c' : Addr) (qual : Str) (o : Obj) : Prop where
  F : FD (c.grown t ps) (upd μ y (.val (.ref f))) ν s'
  old : ∀ b o, s.heap.get? b = some o → b ≠ t → b ≠ c.env.locals → Obj.isCell o = false → s'.heap.get? b = some o
  newF : s.heap.get? f = none
  newC : s.heap.get? c' = none
  ne : c' ≠ f
  fn : s'.heap.get? f = some o
  code : s'.heap.CodeRec (.ref c') qual

theorem tabs_of_heads : ∀ q ∈ heads, q.2 ∈ tabs ∧ mainGlobals ≠ q.2 := by decide

theorem Made.mk' {s s' : Shared} {t : Addr} {ps' : Array Value} {y : Str} {h' : Heap} {tk : Nat} {c' : Addr} {qual : Str} {o : Obj} (F : c.F μ ν s) (hx : Heap.ExtBut t s.heap h') (hsz : s.heap.objs.size ≤ c') (hlt : c' < h'.objs.size)
    (hrec : h'.CodeRec (.ref c') qual) (ho : o.isFreed = false) (hc : Obj.isCell o = false)
    (F' : FD (c.grown t ps') (upd μ y (.val (.ref h'.objs.size))) ν s') (st : Stay c.env.locals { s with heap := h'.push o, toks := tk } s') : Made c μ ν t ps' y s s' h'.objs.size c' qual o where
  F := F'
  old := fun b ob e hb hL hcell => st.other b ob (Heap.get?_push_of_some _ (hx b ob hb e)) hL hcell
  newF := fresh_size (Nat.le_of_lt (Nat.lt_of_le_of_lt hsz hlt))
  newC := fresh_size hsz
  ne := Nat.ne_of_lt hlt
  fn := by
    have hL : c.env.locals < s.heap.objs.size := by
      obtain ⟨m, _, hn, _⟩ := F.vars
      exact hn.lt
    exact st.other _ o (Heap.get?_push_size _ ho) (fun q => by rw [← q] at hL; exact absurd (Nat.lt_trans hL (Nat.lt_of_le_of_lt hsz hlt)) (Nat.lt_irrefl _)) hc
  code := by
    obtain ⟨c₂, oc, vs, tt, e, hoc, hd, hv⟩ := hrec
    cases e
    exact ⟨c', oc, vs, tt, rfl, st.data _ _ (Heap.get?_push_of_some _ hoc) (Or.inr (by simp [Obj.isFields, hd])), hd, hv⟩

theorem FD.lambda {P : Params} {s : Shared} {E : Value → Shared → Prop} {y : Str} {py lpos spos : Pos} {params : Arguments} {body : Expr} {scope : Scope} {t cd : Addr} {ps : Array Value} {Q : Flow → Shared → Prop} (F : c.F μ ν s) (h : HL P c.hL) (hq : (cd, t) ∈ heads) (hcode : c.env.code = .ref cd) (hX : c.X t)
    (hg : c.g t = some (tabObj ps)) (hts : TriplesOk ps.toList) (hnf : codeAmong lpos ps.toList = none) (hge : c.env.globals = mainGlobals) (hall : (scope.names.all fun x => x.2 != .free || (c.env.cells.lookup x.1).isSome) = true) (hy : Own c y)
    (hQ : ∀ pm s' f c' ctv, Made c μ ν t (ps ++ #[rawInt lpos.line, rawInt lpos.col, .ref c']) y s s' f c' (c.env.qual ++ "<lambda>") (kla_obj "<lambda>" (c.env.qual ++ "<lambda>") params body scope (closureOf c.env.cells scope.names []) pm c' ctv) → Q .next s')
    (hdef : defaultsOf params c.env = ([], []) := by rfl) (hsw : swapsWith (.Lambda params body scope lpos) (some (.Name y py)) spos.line c.env = pure false := by rfl) :
    wpAny c.M c.A (exec (.Assign [.Name y py] (.Lambda params body scope lpos) spos) c.env) Q E s := by
  obtain ⟨mg, hmg, hb⟩ := h.bm
  have k := F.lib.get
  have ht : t ∈ tabs := (tabs_of_heads _ hq).1
  have hgP : mainGlobals ≠ t := (tabs_of_heads _ hq).2
  refine wpAny_Assign_Name (kla_eval hdef (kla_makeFunction (mg := mg) (closureFor_eq hall) hge (hb _ k t ht).1 hcode (h.head hq _ k) (F.froz t _ hg).1 hts hnf hgP (hb _ k t ht).2 fun c' ctv h' tk hx hsz hlt hrec htb => ?_)) hsw
  have F1 := F.grow (tk := tk) ht hX hg hx htb
  have F2 := F1.keeps (s' := { s with heap := h'.push (kla_obj "<lambda>" (c.env.qual ++ "<lambda>") params body scope (closureOf c.env.cells scope.names []) ((mg "__name__").getD .none) c' ctv), toks := tk }) ⟨_, _, rfl, fun _ _ e => Heap.get?_push_of_some _ e⟩
  exact FD.store (c := c.grown t (ps ++ #[rawInt lpos.line, rawInt lpos.col, .ref c'])) F2 hy (d := .val (.ref h'.objs.size)) rfl fun s' F' st => hQ _ s' _ c' ctv (Made.mk' F hx hsz hlt hrec rfl rfl F' st)

theorem FD.def_ {P : Params} {s : Shared} {E : Value → Shared → Prop} {name : Str} {pos : Pos} {params : Arguments} {body : List Stmt} {scope : Scope} {t cd : Addr} {ps : Array Value} {Q : Flow → Shared → Prop} (F : c.F μ ν s) (h : HL P c.hL) (hq : (cd, t) ∈ heads) (hcode : c.env.code = .ref cd) (hX : c.X t)
    (hg : c.g t = some (tabObj ps)) (hts : TriplesOk ps.toList) (hnf : codeAmong pos ps.toList = none) (hge : c.env.globals = mainGlobals) (hall : (scope.names.all fun x => x.2 != .free || (c.env.cells.lookup x.1).isSome) = true) (hy : Own c name)
    (hQ : ∀ pm doc s' f c' ctv, Made c μ ν t (ps ++ #[rawInt pos.line, rawInt pos.col, .ref c']) name s s' f c' (qualnameIn c.env name name) (fnMade name (qualnameIn c.env name name) params body scope (closureOf c.env.cells scope.names []) doc pm c' ctv) → Q .next s')
    (hd0 : params.defaults = [] := by rfl) (hk0 : params.kw_defaults = [] := by rfl) (ha : annTrees params none c.env = [] := by rfl) :
    wpAny c.M c.A (exec (.FunctionDef name params body [] none [] scope none name pos) c.env) Q E s := by
  obtain ⟨mg, hmg, hb⟩ := h.bm
  have k := F.lib.get
  have ht : t ∈ tabs := (tabs_of_heads _ hq).1
  have hgP : mainGlobals ≠ t := (tabs_of_heads _ hq).2
  refine nestDef_K hd0 hk0 ha (makeFunction_K (mg := mg) (closureFor_eq hall) hge (hb _ k t ht).1 hcode (h.head hq _ k) (F.froz t _ hg).1 hts hnf hgP (hb _ k t ht).2 fun c' ctv doc h' tk hx hsz hlt hrec htb => ?_)
  have F1 := F.grow (tk := tk) ht hX hg hx htb
  have F2 := F1.keeps (s' := { s with heap := h'.push (fnMade name (qualnameIn c.env name name) params body scope (closureOf c.env.cells scope.names []) doc ((mg "__name__").getD .none) c' ctv), toks := tk }) ⟨_, _, rfl, fun _ _ e => Heap.get?_push_of_some _ e⟩
  exact FD.store (c := c.grown t (ps ++ #[rawInt pos.line, rawInt pos.col, .ref c'])) F2 hy (d := .val (.ref h'.objs.size)) rfl fun s' F' st => hQ _ doc s' _ c' ctv (Made.mk' F hx hsz hlt hrec rfl rfl F' st)

/-- something of our own, no part of the frame, is turned -/
theorem FD.turn {s : Shared} (F : c.F μ ν s) {h' : Heap} {tk : Nat} {a : Addr} {o : Obj} (ha : s.heap.get? a = some o) (hk : ∀ b o, b ≠ a → s.heap.get? b = some o → h'.get? b = some o) (h0 : c.s₀.heap.get? a = none) (hhL : c.hL.get? a = none) (hH : ¬ c.H a) (hT : a ∉ tabs)
    (hseq : Obj.isSeq o = false) (hfld : Obj.isFields o = false) (hL : a ≠ c.env.locals) (hC : Obj.isCell o = false) : c.F μ ν { s with heap := h', toks := tk } := by
  have some' : ∀ b, b ≠ a → (s.heap.get? b).isSome = true → (h'.get? b).isSome = true := fun b hb e => by
    obtain ⟨o, e⟩ := Option.isSome_iff_exists.mp e
    rw [hk b o hb e]; rfl
  have le : SeqLe (mask c.H ν s.heap) (mask c.H ν h') := mask_le fun b o' _ hs e => hk b o' (fun q => by rw [q, ha] at e; cases e; rw [hseq] at hs; cases hs) e
  exact {
    same := by obtain ⟨h₁, t₁, rfl⟩ := F.same; exact ⟨h', tk, rfl⟩
    keep := fun b o hb e => hk b o (fun q => by rw [q, h0] at e; cases e) (F.keep b o hb e)
    live := fun b o e => some' b (fun q => by rw [q, h0] at e; cases e) (F.live b o e)
    lib := ⟨fun b o hb e => hk b o (fun q => by rw [q, hhL] at e; cases e) (F.lib.get b o hb e), fun t ht => some' t (fun q => hT (q ▸ ht)) (F.lib.tab t ht)⟩
    fn := F.fn
    hidL := F.hidL
    mutH := F.mutH
    hid := fun b hb => some' b (fun q => hH (q ▸ hb)) (F.hid b hb)
    froz := fun b o' e => ⟨hk b o' (fun q => by
      have := F.froz b o' e
      rw [q, ha] at this
      obtain ⟨e1, e2⟩ := this
      cases e1
      rcases e2 with e2 | e2
      · rw [hseq] at e2; cases e2
      · rw [hfld] at e2; cases e2) (F.froz b o' e).1, (F.froz b o' e).2⟩
    frozM := F.frozM
    dom := F.dom
    newM := F.newM
    freshL := F.freshL
    freshC := F.freshC
    apart := F.apart
    vars := by
      obtain ⟨m, cm, hn, hc, hv⟩ := F.vars
      refine ⟨m, cm, hn.at' fun o' e => hk _ o' (Ne.symm hL) e, fun n b e => ?_, fun x d e => ?_⟩
      · obtain ⟨ob, ho, hd⟩ := hc n b e
        exact ⟨ob, hk b ob (fun q => by rw [q, ha] at ho; cases ho; simp [Obj.isCell, hd] at hC) ho, hd⟩
      · obtain ⟨v, hr, hw⟩ := hv x d e
        exact ⟨v, Rep.mono le _ _ hr, hw⟩
    muts := fun b l e => by
      obtain ⟨h1, vs, hp, hr⟩ := F.muts b l e
      refine ⟨h1, vs, hp.at fun o' e' => hk b o' (fun q => ?_) e', Reps.mono le _ _ hr⟩
      obtain ⟨n, hp⟩ := hp
      rw [q, ha] at hp; cases hp
      cases hseq }

theorem exec_Assign_Attr {M : Model} {A : Around} {E : Value → Shared → Prop} {s : Shared} {env : Env} {o value : Expr} {attr : Str} {pos' pos : Pos} {Q : Flow → Shared → Prop}
    (h : wpAny M A (eval value env) (fun v s₁ => wpAny M A (eval o env) (fun ov s₂ => wpAny M A (setAttr ov attr v) (fun _ => Q .next) E s₂) E s₁) E s)
    (hs : swapsWith value (some (.Attribute o attr pos')) pos.line env = pure false := by rfl) : wpAny M A (exec (.Assign [.Attribute o attr pos'] value pos) env) Q E s := by
  have e : exec (.Assign [.Attribute o attr pos'] value pos) env = (do
      standAt pos
      if ← swapsWith value (some (.Attribute o attr pos')) pos.line env then
        evalThenUse value env (PySem.assign (.Attribute o attr pos') env)
        return .next
      let v ← eval value env
      PySem.assign (.Attribute o attr pos') env v
      pure .next) := rfl
  rw [e, hs]
  refine wpAny_bind (wpAny_standAt (wpAny_bind (wpAny_pure ?_)))
  rw [if_neg (by decide)]
  refine wpAny_bind (wpAny_mono h (fun v s₁ h₁ => wpAny_bind ?_) fun _ _ e => e)
  rw [arm_assign_Attribute]
  refine wpAny_bind (wpAny_holding (wpAny_mono h₁ (fun ov s₂ h₂ => wpAny_bind (wpAny_standAt (wpAny_bind (wpAny_holding (wpAny_mono h₂ (fun _ s₃ h₃ => wpAny_release' (wpAny_pure h₃)) fun _ _ e => e)))) ) fun _ _ e => e))

/-- a list display, new -/
theorem EvNew.list {pos : Pos} {es : List Expr} {ds : List D} (h : EvL c μ ν pos es ds) (hsz : ds.length ≤ 16777216 := by simp) : EvNew c μ ν (.List es pos) ds := by
  intro s E F
  refine wpAny_List (wpAny_mono (h s E F) (fun vs s₁ h₁ => ⟨by rw [h₁.2.length, sizeLine_eq]; exact hsz, ?_⟩) fun _ _ e => e)
  have F1 := F.keeps h₁.1
  refine ⟨_, vs.toArray, rfl, h₁.1.trans ⟨_, s₁.toks, rfl, fun _ _ e => Heap.get?_push_of_some _ e⟩, h₁.1.fresh (fresh_size (Nat.le_refl _)), ⟨_, Heap.get?_push_size _ rfl⟩, Reps.mono ?_ _ _ (by simpa using h₁.2)⟩
  intro b o e _
  rw [mask_some] at e ⊢
  have hb : b ≠ s₁.heap.objs.size := Nat.ne_of_lt (Heap.lt_size e.2.2)
  exact ⟨e.1, by unfold updM; simp only [hb, if_false]; exact e.2.1, Heap.get?_push_of_some _ e.2.2⟩
end
end Mine
end
section
open PySem PySem.W PyProof.Rows
set_option autoImplicit false
set_option maxRecDepth 100000
namespace Mine
variable {P : Params} {prog : Program} {w : World} {hL : Heap}

theorem FD.evName {c : Cx} {μ : Vars} {ν : Muts} {s : Shared} {E : Value → Shared → Prop} {x : Str} {pos : Pos} {d : D} (F : c.F μ ν s) (hx : μ x = some d) (hd : (x == ("__debug__" : Str)) = false := by decide) (hcd : (x == ("__classdict__" : Str)) = false := by decide) :
    wpAny c.M c.A (eval (.Name x pos) c.env) (Post c ν s d) E s := Ev.name hx hd hcd s E F

theorem stream_at (h : HL P hL) : DefAt hL 103 (fdAt P 103) (bodyAt P 103) ["octets"] := def_at h 103 _ 102

abbrev tabG (t : Addr) (ps : Array Value) : View := fun b => if b = t then some (tabObj ps) else none

/-- what the maker of a stream brings -/
def StreamMade (P : Params) (hL : Heap) (H : Addr → Prop) (octets : List Nat) (s : Shared) (r : Result) (s' : Shared) : Prop :=
  ∃ (a Lp : Addr) (bs : List Addr), r = .ok (.ret (.ref a)) ∧ Eff hL H (fun b => b = 98) noMuts (updM noMuts Lp [nt 0]) s s' ∧ (∃ ps, s'.heap.get? 98 = some (tabObj ps)) ∧ s.heap.get? Lp = none ∧
    (∀ b ∈ bs, s.heap.get? b = none ∧ b ≠ Lp) ∧ ∀ hL', HL P hL' → (∀ b ∈ bs, hL'.get? b = s'.heap.get? b) → StreamAt P hL' a octets Lp

theorem stream_made (h : HL P hL) (octets : List Nat) (A : Around) (s : Shared) (vs : List Value) (H : Addr → Prop) (room : Room A 1) (hlib : Lib hL s.heap) (hid : ∀ b, H b → (s.heap.get? b).isSome = true) (hidL : ∀ b, H b → hL.get? b = none)
    (hr : Reps (mask H noMuts s.heap) [bl octets] vs) (hT : s.heap.get? 98 = some (tabObj #[])) : codeAny (model prog w) A (.call (.ref 103) ⟨vs, []⟩) (StreamMade P hL H octets s) s := by
  refine call_def (X := fun _ => False) (H := H) (ν := noMuts) (stream_at h) ?_ (by have := room.depth; omega) hlib hid hidL (fun b e => by cases e) (fun b l e => by cases e) hr ?_
  · obtain ⟨v, rfl, _⟩ := hr.one
    rfl
  intro s₁ F₁
  let c : Cx := ⟨prog, w, A.deeper (callEnvC (fdAt P 103) s.heap.objs.size 103), hL, s, fun b => b = 98, H, tabG 98 #[], callEnvC (fdAt P 103) s.heap.objs.size 103, fun _ => true, fun b => (noMuts b).isSome = true⟩
  have F : FD c (ofParams ["octets"] [bl octets]) noMuts s₁ := by
    refine FD.setG (c := { c with g := noView }) (FD.moreX F₁ (fun b => b = 98) fun _ q => q.elim) (tabG 98 #[]) (fun a o e => ?_) (fun a l e => by cases e)
    unfold tabG at e
    split at e
    · rename_i q; cases e; subst q
      exact ⟨F₁.keep _ _ (fun q => q) hT, Or.inr rfl⟩
    · cases e
  refine (?_ : Ex c (ofParams ["octets"] [bl octets]) noMuts (bodyAt P 103) _ _) s₁ F
  refine Ex.assignM (EvNew.evM (EvNew.list (EvL.cons (Ev.nat 0) EvL.nil))) (Or.inr ⟨by kernel_rfl, by kernel_rfl, rfl⟩) ?_
  rintro ν' d ⟨Lp, hLp, rfl, rfl⟩
  refine Ex.cons fun s₂ F₂ => FD.lambda F₂ h (cd := 102) (t := 98) (by decide) (by kernel_rfl) rfl rfl trivial rfl (by kernel_rfl) (by kernel_rfl) (Or.inl (by kernel_rfl)) fun pm s₃ a c₁ ctv M₁ => ?_
  refine wpAny_execs_cons ?_
  refine FD.def_ (c := c.grown 98 _) M₁.F h (cd := 102) (t := 98) (by decide) (by kernel_rfl) rfl rfl ?_ ?_ (by kernel_rfl) (by kernel_rfl) (Or.inl (by kernel_rfl)) fun pm₂ doc s₄ r c₂ ctv₂ M₂ => ?_
  · simp [TriplesOk, rawInt]
  · simp [codeAmong, rawInt]
  have hEnv : c.env.locals = s.heap.objs.size := rfl
  have f98 : s₂.heap.get? 98 = some (tabObj #[]) := (F₂.froz 98 _ rfl).1
  have f98' : s₃.heap.get? 98 = some (tabObj _) := (M₁.F.froz 98 _ rfl).1
  have Llt : s₂.heap.get? s.heap.objs.size ≠ none := by
    obtain ⟨m, _, hn, _⟩ := F₂.vars
    obtain ⟨o, _, _, e, _⟩ := hn
    have e : s₂.heap.get? s.heap.objs.size = some o := e
    rw [e]; exact fun q => by cases q
  have a98 : a ≠ 98 := fun q => by have := M₁.newF; rw [q, f98] at this; cases this
  have aL : a ≠ s.heap.objs.size := fun q => Llt (q ▸ M₁.newF)
  have aC : c₁ ≠ 98 := fun q => by have := M₁.newC; rw [q, f98] at this; cases this
  have ha4 := M₂.old a _ M₁.fn a98 aL rfl
  have r98 : r ≠ 98 := fun q => by have := M₂.newF; rw [q, f98'] at this; cases this
  have ra : r ≠ a := fun q => by have := M₂.newF; rw [q, M₁.fn] at this; cases this
  refine wpAny_execs_cons (exec_Assign_Attr (wpAny_mono (M₂.F.evName (d := .val (.ref r)) rfl) (fun v s₅ h₅ => wpAny_mono ((M₂.F.keeps h₅.1).evName (d := .val (.ref a)) rfl) (fun ov s₆ h₆ => ?_) fun _ _ e => e) fun _ _ e => e))
  have q5 := h₅.2
  simp only [Rep] at q5
  subst q5
  have q6 := h₆.2
  simp only [Rep] at q6
  subst q6
  have k46 := h₅.1.trans h₆.1
  have F6 := M₂.F.keeps k46
  have ha6 := k46.get _ _ ha4
  refine fn_setAttr ha6 fun h' tk d hd hfa hdn hk => ?_
  have s0a : s.heap.get? a = none := by
    cases q : s.heap.get? a with
    | none => rfl
    | some o => have := F₂.live a o q; rw [M₁.newF] at this; cases this
  have F7 := F6.turn (tk := tk) ha6 hk s0a (F₂.lib.fresh M₁.newF) (fun q => by have := F₂.hid a q; rw [M₁.newF] at this; cases this) (fun q => by have := F₂.lib.tab a q; rw [M₁.newF] at this; cases this) rfl rfl aL rfl
  refine wpAny_execs_cons (wpAny_Return_some (wpAny_mono (F7.evName (d := .val (.ref a)) rfl) (fun v s₈ h₈ => ?_) fun _ _ e => e))
  have q8 := h₈.2
  simp only [Rep] at q8
  subst q8
  have F8 := F7.keeps h₈.1
  -- what stands at the end
  have g8 : ∀ b o, s₄.heap.get? b = some o → b ≠ a → s₈.heap.get? b = some o := fun b o e hb => h₈.1.get _ _ (hk b o hb (k46.get _ _ e))
  have a8 : s₈.heap.get? a = some _ := h₈.1.get _ _ hfa
  have d8 : s₈.heap.Ns d _ := hdn.keeps h₈.1.get
  have r8 : s₈.heap.get? r = some _ := g8 _ _ M₂.fn ra
  have back : ∀ {b : Addr}, s₂.heap.get? b = none → s.heap.get? b = none := fun {b} e => by
    cases q : s.heap.get? b with
    | none => rfl
    | some o => have := F₂.live b o q; rw [e] at this; cases this
  have c2ne : c₂ ≠ a := fun q => by have := M₂.newC; rw [q, M₁.fn] at this; cases this
  have code8 : s₈.heap.CodeRec (.ref c₂) (qualnameIn c.env "read" "read") := by
    obtain ⟨c', o, vs, tt, e, ho, hd⟩ := M₂.code
    cases e
    exact ⟨c₂, o, vs, tt, rfl, g8 _ _ ho c2ne, hd⟩
  obtain ⟨m8, cm8, hn8, hc8, hv8⟩ := F8.vars
  have co : s₈.heap.IsCell (s.heap.objs.size + 1) (cm8 "octets") := hc8 "octets" (s.heap.objs.size + 1) (by kernel_rfl)
  have cp : s₈.heap.IsCell (s.heap.objs.size + 2) (cm8 "place") := hc8 "place" (s.heap.objs.size + 2) (by kernel_rfl)
  obtain ⟨vo, ho1, ho2⟩ := hv8 "octets" (bl octets) rfl
  obtain ⟨vp, hp1, hp2⟩ := hv8 "place" (.val (.ref Lp)) rfl
  have ho3 : cm8 "octets" = some vo := by
    rcases ho2 with ⟨q, _⟩ | ⟨_, _, q⟩
    · exact absurd (q.symm.trans (show c.env.kindOf "octets" = some .cell by kernel_rfl)) (by simp)
    · exact q
  have hp3 : cm8 "place" = some vp := by
    rcases hp2 with ⟨q, _⟩ | ⟨_, _, q⟩
    · exact absurd (q.symm.trans (show c.env.kindOf "place" = some .cell by kernel_rfl)) (by simp)
    · exact q
  obtain ⟨hLp1, vsp, ⟨np, hLp2⟩, _⟩ := F8.muts Lp _ updM_self
  have neLp : ∀ b o, s₈.heap.get? b = some o → Obj.isSeq o = false → b ≠ Lp := fun b o e q r => by
    rw [r, hLp2] at e; cases e; cases q
  have newLp : s.heap.get? Lp = none := (F8.newM Lp (by rw [updM_self]; rfl)).elim (fun q => by cases q) id
  obtain ⟨oo, hoo1, hoo2⟩ := id co
  obtain ⟨op, hop1, hop2⟩ := id cp
  obtain ⟨od, esd, epd, hod1, hod2, hod3⟩ := id d8
  obtain ⟨ccd, occ, vcc, tcc, ecc, hocc, hdcc, hvcc⟩ := id code8
  cases ecc
  refine ⟨a, Lp, [a, d, r, c₂, s.heap.objs.size + 1, s.heap.objs.size + 2], rfl, Eff.of F8 rfl fun b => Iff.rfl, ⟨_, (F8.froz 98 _ rfl).1⟩, newLp, ?_, ?_⟩
  · intro b hb
    simp only [List.mem_cons, List.not_mem_nil, or_false] at hb
    rcases hb with rfl | rfl | rfl | rfl | rfl | rfl
    · exact ⟨s0a, neLp _ _ a8 rfl⟩
    · refine ⟨?_, neLp _ _ hod1 (by simp [Obj.isSeq, hod2])⟩
      cases q : s.heap.get? b with
      | none => rfl
      | some o =>
        obtain ⟨o', e'⟩ := Option.isSome_iff_exists.mp (F6.live b o q)
        rw [hd] at e'; cases e'
    · refine ⟨?_, neLp _ _ r8 rfl⟩
      cases q : s.heap.get? b with
      | none => rfl
      | some o => have := M₁.F.live b o q; rw [M₂.newF] at this; cases this
    · refine ⟨?_, neLp _ _ hocc (by simp [Obj.isSeq, hdcc])⟩
      cases q : s.heap.get? b with
      | none => rfl
      | some o => have := M₁.F.live b o q; rw [M₂.newC] at this; cases this
    · exact ⟨fresh_size (Nat.le_succ _), neLp _ _ hoo1 (by simp [Obj.isSeq, hoo2])⟩
    · exact ⟨fresh_size (by omega), neLp _ _ hop1 (by simp [Obj.isSeq, hop2])⟩
  · intro hL' hh' hag
    have notTab : ∀ b, s.heap.get? b = none → b ∉ tabs := fun b e q => by have := hlib.tab b q; rw [e] at this; cases this
    have r0 : s.heap.get? r = none := by
      cases q : s.heap.get? r with
      | none => rfl
      | some o => have := M₁.F.live r o q; rw [M₂.newF] at this; cases this
    have c0 : s.heap.get? c₂ = none := by
      cases q : s.heap.get? c₂ with
      | none => rfl
      | some o => have := M₁.F.live c₂ o q; rw [M₂.newC] at this; cases this
    have d0 : s.heap.get? d = none := by
      cases q : s.heap.get? d with
      | none => rfl
      | some o =>
        obtain ⟨o', e'⟩ := Option.isSome_iff_exists.mp (F6.live d o q)
        rw [hd] at e'; cases e'
    have hcl : closureOf c.env.cells (stScope (stmtAt P 103 2)).names [] = ([(("place" : Str), s.heap.objs.size + 2), (("octets" : Str), s.heap.objs.size + 1)] : List (Str × Addr)) := by kernel_rfl
    refine ⟨d, r, _, _, _, _, _, (hag a (by simp)).trans a8, notTab _ s0a, d8.at' fun o e => (hag d (by simp)).trans e, notTab _ d0, rfl, (hag r (by simp)).trans r8, rfl, notTab _ r0, ⟨by kernel_rfl, fun v => rfl, by kernel_rfl, rfl⟩, ?_⟩
    exact {
      at_ := ⟨_, (hag r (by simp)).trans r8, rfl⟩
      notTab := notTab _ r0
      body_ := by kernel_rfl
      lim := hh'.lim
      code := ⟨c₂, rfl, notTab _ c0, c₂, occ, vcc, tcc, rfl, (hag c₂ (by simp)).trans hocc, hdcc, hvcc⟩
      plain := ⟨by kernel_rfl, by kernel_rfl, by kernel_rfl⟩
      nodup := by simp
      kinds := fun n hn => by simp at hn; subst hn; kernel_rfl
      nocell := by
        show ∀ x ∈ ([("count", .local), ("first", .local), ("octets", .free), ("place", .free), ("min", .globalImplicit), ("len", .globalImplicit)] : List (Str × NameKind)), x.2 ≠ .cell
        decide
      apart := fun n n' b h1 h2 => by
        have h1 : (closureOf c.env.cells (stScope (stmtAt P 103 2)).names []).lookup n = some b := h1
        have h2 : (closureOf c.env.cells (stScope (stmtAt P 103 2)).names []).lookup n' = some b := h2
        rw [hcl] at h1 h2
        refine lookup_apart ?_ h1 h2
        simp
      cells := by
        refine ⟨cm8, fun n b e => ?_, fun x d e => ?_⟩
        · have e : (closureOf c.env.cells (stScope (stmtAt P 103 2)).names []).lookup n = some b := e
          rw [hcl] at e
          have := mem_of_lookup e
          simp only [List.mem_cons, List.not_mem_nil, or_false, Prod.mk.injEq] at this
          rcases this with ⟨rfl, rfl⟩ | ⟨rfl, rfl⟩
          · exact ⟨notTab _ (fresh_size (by omega)), op, (hag _ (by simp)).trans hop1, hop2⟩
          · exact ⟨notTab _ (fresh_size (Nat.le_succ _)), oo, (hag _ (by simp)).trans hoo1, hoo2⟩
        · split at e
          · rename_i q; cases e; subst q
            exact ⟨by kernel_rfl, by kernel_rfl, vo, ho3, by simpa [Rep] using ho1⟩
          · split at e
            · rename_i q; cases e; subst q
              exact ⟨by kernel_rfl, by kernel_rfl, vp, hp3, by simpa [Rep] using hp1⟩
            · cases e }
end Mine
end
section
open PySem PySem.W PyProof.Rows
set_option autoImplicit false
set_option maxRecDepth 100000
namespace Mine
section
variable {c : Cx} {μ : Vars} {ν : Muts} {P : Flow → Shared → Prop} {E : Value → Shared → Prop} {rest : List Stmt}

/-- a, b = (e1, e2) with names of the frame: stored from behind -/
theorem Ex.swapNames {x y : Str} {px py tpos vpos pos : Pos} {k kv : Nat} {e1 e2 : Expr} {d1 d2 : D} (hh : c.A.handled = none) (hl : EvL c μ ν vpos [e1, e2] [d1, d2]) (hx : Own c x) (hy : Own c y)
    (hr : Ex c (upd (upd μ y d2) x d1) ν rest P E)
    (hs : swapsWithSole [.Tuple [.Name x px, .Name y py] k tpos] (.Tuple [e1, e2] kv vpos) pos.line c.env = pure false := by rfl)
    (hw : swappedStores [.Tuple [.Name x px, .Name y py] k tpos] (.Tuple [e1, e2] kv vpos) c.env = pure (some [x, y]) := by rfl) :
    Ex c μ ν (.Assign [.Tuple [.Name x px, .Name y py] k tpos] (.Tuple [e1, e2] kv vpos) pos :: rest) P E := by
  refine Ex.cons fun s F => Assign_Tuple_swapped (wpAny_Tuple_spliced ?_) hs hw
  refine wpAny_mono (hl s E F) (fun vs s₁ h₁ => ?_) fun _ _ e => e
  obtain ⟨k₁, hv⟩ := h₁
  have F1 := F.keeps k₁
  obtain ⟨v1, v2, rfl, r1, r2⟩ : ∃ v1 v2, vs = [v1, v2] ∧ Rep (mask c.H ν s₁.heap) d1 v1 ∧ Rep (mask c.H ν s₁.heap) d2 v2 := by
    simp only [Reps] at hv
    obtain ⟨v1, r, rfl, h1, v2, r', rfl, h2, rfl⟩ := hv
    exact ⟨v1, v2, rfl, h1, h2⟩
  refine ⟨by rw [sizeLine_eq]; simp, ?_⟩
  have k₂ : Kp s₁ { s₁ with heap := s₁.heap.push { cls := .type "tuple", data := .seq [v1, v2].toArray } } := ⟨_, s₁.toks, rfl, fun _ _ e => Heap.get?_push_of_some _ e⟩
  have F2 := F1.keeps k₂
  have ht : ({ s₁ with heap := s₁.heap.push { cls := .type "tuple", data := .seq [v1, v2].toArray } } : Shared).heap.IsTuple s₁.heap.objs.size [v1, v2].toArray := ⟨_, Heap.get?_push_size _ rfl, rfl, 0, rfl⟩
  show wpAny _ _ (unpackItems (.ref s₁.heap.objs.size) [v1, v2].toArray.size none) _ _ _
  refine wpAny_unpackItems_tuple hh ht fun h₃ he₃ => ?_
  have k₃ : Kp { s₁ with heap := s₁.heap.push { cls := .type "tuple", data := .seq [v1, v2].toArray } } { s₁ with heap := h₃ } := ⟨h₃, s₁.toks, rfl, fun b o e => he₃ b o (Nat.ne_of_lt (Heap.lt_size e)) e⟩
  have F3 := F2.keeps k₃
  have r1 := (r1.keeps k₂).keeps k₃
  have r2 := (r2.keeps k₂).keeps k₃
  show wpAny _ _ (assignInOrder [bindName c.env y, bindName c.env x] [v2, v1]) _ _ _
  refine assignInOrder_cons (wpAny_bindName (FD.store F3 hy r2 fun s₄ F4 st => ?_))
  refine assignInOrder_cons (wpAny_bindName (FD.store F4 hx (Rep.mono (mask_le fun b o _ hs e => st.data b o e (Or.inl hs)) _ _ r1) fun s₅ F5 _ => ?_))
  exact assignInOrder_nil (hr _ F5)

theorem op_iadd {a b : Int} : Op2 c μ ν (inplaceOp .Add) (.int a) (.int b) (.int (a + b)) := .ofInt fun s _ _ _ _ => wpAny_iadd_int ⟨Kp.tok s _, ⟨_, rfl⟩⟩
end

theorem bitAnd_shift (y : Int) : ∀ (k : Nat) (x : Int), Builtin.bitAnd x (2 ^ k * y) = 2 ^ k * Builtin.bitAnd (x / 2 ^ k) y
  | 0, x => by simp
  | k + 1, x => by
    have e : (2 : Int) ^ (k + 1) * y = 2 * (2 ^ k * y) := by rw [Int.pow_succ, Int.mul_comm (2 ^ k) 2, Int.mul_assoc]
    rw [e, kbt_halves]
    have e1 : (2 * (2 ^ k * y)) / 2 = 2 ^ k * y := Int.mul_ediv_cancel_left _ (by decide)
    have e2 : (2 * (2 ^ k * y)) % 2 = 0 := Int.mul_emod_right _ _
    rw [e1, e2, if_neg (by simp), Int.add_zero, bitAnd_shift y k, Int.ediv_ediv_of_nonneg (by decide)]
    rw [show (2 : Int) * 2 ^ k = 2 ^ (k + 1) by rw [Int.pow_succ, Int.mul_comm], Int.pow_succ, Int.mul_comm (2 ^ k) 2, Int.mul_assoc]

theorem and_4095 (m : Nat) : Builtin.bitAnd (m : Int) 4095 = ((m % 4096 : Nat) : Int) := by
  have := kbt_mask (m : Int) 12
  simpa using this
theorem and_61440 (m : Nat) : Builtin.bitAnd (m : Int) 61440 = ((m / 4096 % 16 * 4096 : Nat) : Int) := by
  have h1 := bitAnd_shift 15 12 (m : Int)
  rw [bitAnd_m4] at h1
  rw [show (61440 : Int) = 2 ^ 12 * 15 by decide, h1]
  simp only [show ((2 : Int) ^ 12) = 4096 by decide]
  omega

variable {P : Params} {prog : Program} {w : World} {hL : Heap}

theorem imode_pureN (h : HL P hL) (m : Nat) : Pure prog w hL 49 1 [nt m] (nt (m % 4096)) := by
  have := imode_pure (prog := prog) (w := w) h (m : Int)
  rwa [and_4095] at this
theorem ifmt_pureN (h : HL P hL) (m : Nat) : Pure prog w hL 56 1 [nt m] (nt (m / 4096 % 16 * 4096)) := by
  have := ifmt_pure (prog := prog) (w := w) h (m : Int)
  rwa [and_61440] at this

theorem small_mul {a b : Int} (h1 : -4 ≤ a) (h2 : a ≤ 4) : IntMulOk a b := .of_left (by
  unfold Builtin.Int.intBits
  split
  · omega
  · rename_i hn
    have hn' : a.natAbs ≠ 0 := by intro e; apply hn; have : a = 0 := by omega
                                  simp [this]
    have : a.natAbs.log2 < 3 := (Nat.log2_lt hn').mpr (by omega)
    omega)

/-- what a deed makes of a mode -/
def stepI (d : Nat × Nat × Nat) (mode : Nat) : Int :=
  let rights := mode % 4096
  let first := rights / 2 ^ d.1 % 2
  let second := rights / 2 ^ d.2.1 % 2
  let fresh := d.2.2 / 4 ^ (2 * first + second) % 4
  ((mode / 4096 % 16 * 4096 : Nat) : Int) + ((rights : Int) + ((((fresh / 2 : Nat) : Int) - first) * ((2 ^ d.1 : Nat) : Int) + (((fresh % 2 : Nat) : Int) - second) * ((2 ^ d.2.1 : Nat) : Int)))

/-- the step, in the known heap -/
structure StepAt (P : Params) (hL : Heap) (r : Addr) (deeds : List (Nat × Nat × Nat)) : Prop where
  fn : ∃ orr fr, hL.get? r = some orr ∧ orr.data = .func fr ∧ r ∉ tabs ∧
    (fr.scope = stScope (stmtAt P 127 0) ∧ (∀ u v, bindArgs fr ⟨[u, v], []⟩ = pure [(("mode" : Str), u), (("k" : Str), v)]) ∧ fr.globals = mainGlobals ∧ fr.builtins = builtinsNs) ∧
    CloAt hL r fr (stBody (stmtAt P 127 0)) ["mode", "k"] (fun x => if x = "deeds" then some (.list (deeds.map dl)) else none)

theorem step_pure (h : HL P hL) {r : Addr} {deeds : List (Nat × Nat × Nat)} (K : StepAt P hL r deeds) {mode k : Nat} {d : Nat × Nat × Nat} (hk : deeds[k]? = some d) (h1 : d.1 < 12) (h2 : d.2.1 < 12) (hsz : deeds.length ≤ 16777216) :
    Pure prog w hL r 2 [nt mode, nt k] (.int (stepI d mode)) := by
  obtain ⟨orr, fr, g1, g2, g3, ⟨hs, hpar, hG, hB⟩, K'⟩ := K.fn
  clear g2
  rcases fr with ⟨⟩
  dsimp only at hs hG hB
  subst hs hG hB
  obtain ⟨one, two, octet⟩ := d
  refine pure_clo K' rfl (fun vs hv => ?_) fun A s H room => ?_
  · match vs, hv with
    | [u, v], _ => exact hpar u v
  · refine Ex.unpackList (names := [("one", _), ("two", _), ("octet", _)]) (Ev.itemN (ds := deeds.map dl) (d := dl (one, two, octet)) (Ev.name rfl) (Ev.name rfl) (LD.data _) (by rw [List.getElem?_map, hk]; rfl) (by simpa using hsz)) (LD.data _) room.handled rfl (fun n hn => ?_) ?_
    · simp at hn
      rcases hn with rfl | rfl | rfl <;> exact Or.inl (by kernel_rfl)
    obtain ⟨o49, ho49, hfd49⟩ := (imode_at h).obj
    obtain ⟨o56, ho56, hfd56⟩ := (ifmt_at h).obj
    refine Ex.assign (Ev.callF (Ev.global (clo_std h)) ho49 hfd49 (by decide) (EvL.cons (Ev.name rfl) EvL.nil) (CallIs.ofPure room.deeper (imode_pureN h mode))) (Or.inl (by kernel_rfl)) ?_
    have t1 : one ≤ 12 := Nat.le_of_lt h1
    have t2 : two ≤ 12 := Nat.le_of_lt h2
    refine Ex.swapNames room.handled (EvL.cons (Ev.bin (Ev.bin (Ev.name rfl) (Ev.bin (Ev.nat 2) (Ev.name rfl) (op_powN (by decide) (by omega))) (op_divN (pow2_small t1).1 (pow2_small t1).2)) (Ev.nat 2) (op_modN (by decide)))
      (EvL.cons (Ev.bin (Ev.bin (Ev.name rfl) (Ev.bin (Ev.nat 2) (Ev.name rfl) (op_powN (by decide) (by omega))) (op_divN (pow2_small t2).1 (pow2_small t2).2)) (Ev.nat 2) (op_modN (by decide))) EvL.nil)) (Or.inl (by kernel_rfl)) (Or.inl (by kernel_rfl)) ?_
    have f2 : mode % 4096 / 2 ^ one % 2 < 2 := Nat.mod_lt _ (by decide)
    have s2 : mode % 4096 / 2 ^ two % 2 < 2 := Nat.mod_lt _ (by decide)
    refine Ex.assign (Ev.bin (Ev.bin (Ev.name rfl) (Ev.bin (Ev.nat 4) (Ev.bin (Ev.bin (Ev.nat 2) (Ev.name rfl) (op_mulN (by decide))) (Ev.name rfl) op_addN) (op_powN (by decide) (by omega))) (op_divN (pow4_small (by omega)).1 (pow4_small (by omega)).2)) (Ev.nat 4) (op_modN (by decide))) (Or.inl (by kernel_rfl)) ?_
    have x4 : octet / 4 ^ (2 * (mode % 4096 / 2 ^ one % 2) + mode % 4096 / 2 ^ two % 2) % 4 < 4 := Nat.mod_lt _ (by decide)
    refine Ex.aug rfl (Ev.bin (Ev.bin (Ev.bin (Ev.bin (Ev.name rfl) (Ev.nat 2) (op_divN (by decide) (by decide))) (Ev.name rfl) op_sub) (Ev.bin (Ev.nat 2) (Ev.name rfl) (op_powN (by decide) (by omega))) (op_mul (small_mul (by omega) (by omega))))
      (Ev.bin (Ev.bin (Ev.bin (Ev.name rfl) (Ev.nat 2) (op_modN (by decide))) (Ev.name rfl) op_sub) (Ev.bin (Ev.nat 2) (Ev.name rfl) (op_powN (by decide) (by omega))) (op_mul (small_mul (by omega) (by omega)))) op_add) op_iadd (Or.inl (by kernel_rfl)) ?_
    refine Ex.ret (d := .int (stepI (one, two, octet) mode)) (Ev.bin (Ev.callF (Ev.global (clo_std h)) ho56 hfd56 (by decide) (EvL.cons (Ev.name rfl) EvL.nil) (CallIs.ofPure room.deeper (ifmt_pureN h mode))) (Ev.name rfl) op_add) fun v s' F hv => ⟨v, rfl, F.kp fun _ e => e, hv⟩
end Mine
end
section
open PySem PySem.W PyProof.Rows
set_option autoImplicit false
set_option maxRecDepth 100000
set_option maxHeartbeats 2000000
namespace Mine
variable {P : Params} {prog : Program} {w : World} {hL : Heap}

theorem step_at (h : HL P hL) : DefAt hL 127 (fdAt P 127) (bodyAt P 127) ["deeds"] := def_at h 127 _ 126

/-- what the maker of a step brings -/
def StepMade (P : Params) (hL : Heap) (H : Addr → Prop) (deeds : List (Nat × Nat × Nat)) (s : Shared) (r : Result) (s' : Shared) : Prop :=
  ∃ (f : Addr) (bs : List Addr), r = .ok (.ret (.ref f)) ∧ Eff hL H (fun b => b = 122) noMuts noMuts s s' ∧ (∃ ps, s'.heap.get? 122 = some (tabObj ps)) ∧
    (∀ b ∈ bs, s.heap.get? b = none) ∧ ∀ hL', HL P hL' → (∀ b ∈ bs, hL'.get? b = s'.heap.get? b) → SeqLe (mask H noMuts s'.heap) (libView hL') → StepAt P hL' f deeds

theorem step_made (h : HL P hL) (deeds : List (Nat × Nat × Nat)) (A : Around) (s : Shared) (vs : List Value) (H : Addr → Prop) (room : Room A 1) (hlib : Lib hL s.heap) (hid : ∀ b, H b → (s.heap.get? b).isSome = true) (hidL : ∀ b, H b → hL.get? b = none)
    (hr : Reps (mask H noMuts s.heap) [.list (deeds.map dl)] vs) (hT : s.heap.get? 122 = some (tabObj #[])) : codeAny (model prog w) A (.call (.ref 127) ⟨vs, []⟩) (StepMade P hL H deeds s) s := by
  refine call_def (X := fun _ => False) (H := H) (ν := noMuts) (step_at h) ?_ (by have := room.depth; omega) hlib hid hidL (fun b e => by cases e) (fun b l e => by cases e) hr ?_
  · obtain ⟨v, rfl, _⟩ := hr.one
    rfl
  intro s₁ F₁
  let c : Cx := ⟨prog, w, A.deeper (callEnvC (fdAt P 127) s.heap.objs.size 127), hL, s, fun b => b = 122, H, tabG 122 #[], callEnvC (fdAt P 127) s.heap.objs.size 127, fun _ => true, fun b => (noMuts b).isSome = true⟩
  have F : FD c (ofParams ["deeds"] [.list (deeds.map dl)]) noMuts s₁ := by
    refine FD.setG (c := { c with g := noView }) (FD.moreX F₁ (fun b => b = 122) fun _ q => q.elim) (tabG 122 #[]) (fun a o e => ?_) (fun a l e => by cases e)
    unfold tabG at e
    split at e
    · rename_i q; cases e; subst q
      exact ⟨F₁.keep _ _ (fun q => q) hT, Or.inr rfl⟩
    · cases e
  refine (?_ : Ex c (ofParams ["deeds"] [.list (deeds.map dl)]) noMuts (bodyAt P 127) _ _) s₁ F
  refine Ex.cons fun s₂ F₂ => FD.def_ F₂ h (cd := 126) (t := 122) (by decide) (by kernel_rfl) rfl rfl trivial rfl (by kernel_rfl) (by kernel_rfl) (Or.inl (by kernel_rfl)) fun pm doc s₃ r c₂ ctv M₁ => ?_
  refine wpAny_execs_cons (wpAny_Return_some (wpAny_mono (M₁.F.evName (d := .val (.ref r)) rfl) (fun v s₈ h₈ => ?_) fun _ _ e => e))
  have q8 := h₈.2
  simp only [Rep] at q8
  subst q8
  have F8 := M₁.F.keeps h₈.1
  have r8 : s₈.heap.get? r = some _ := h₈.1.get _ _ M₁.fn
  have code8 : s₈.heap.CodeRec (.ref c₂) (qualnameIn c.env "step" "step") := by
    obtain ⟨c', o, vs, tt, e, ho, hd⟩ := M₁.code
    cases e
    exact ⟨c₂, o, vs, tt, rfl, h₈.1.get _ _ ho, hd⟩
  obtain ⟨m8, cm8, hn8, hc8, hv8⟩ := F8.vars
  have cd : s₈.heap.IsCell (s.heap.objs.size + 1) (cm8 "deeds") := hc8 "deeds" (s.heap.objs.size + 1) (by kernel_rfl)
  obtain ⟨vd, hd1, hd2⟩ := hv8 "deeds" (.list (deeds.map dl)) rfl
  have hd3 : cm8 "deeds" = some vd := by
    rcases hd2 with ⟨q, _⟩ | ⟨_, _, q⟩
    · exact absurd (q.symm.trans (show c.env.kindOf "deeds" = some .cell by kernel_rfl)) (by simp)
    · exact q
  obtain ⟨od, hod1, hod2⟩ := id cd
  obtain ⟨ccd, occ, vcc, tcc, ecc, hocc, hdcc, hvcc⟩ := id code8
  cases ecc
  have back : ∀ {b : Addr}, s₂.heap.get? b = none → s.heap.get? b = none := fun {b} e => by
    cases q : s.heap.get? b with
    | none => rfl
    | some o => have := F₂.live b o q; rw [e] at this; cases this
  have r0 := back M₁.newF
  have c0 := back M₁.newC
  refine ⟨r, [r, c₂, s.heap.objs.size + 1], rfl, Eff.of F8 rfl fun b => Iff.rfl, ⟨_, (F8.froz 122 _ rfl).1⟩, ?_, ?_⟩
  · intro b hb
    simp only [List.mem_cons, List.not_mem_nil, or_false] at hb
    rcases hb with rfl | rfl | rfl
    · exact r0
    · exact c0
    · exact fresh_size (Nat.le_succ _)
  · intro hL' hh' hag le
    have notTab : ∀ b, s.heap.get? b = none → b ∉ tabs := fun b e q => by have := hlib.tab b q; rw [e] at this; cases this
    have hcl : closureOf c.env.cells (stScope (stmtAt P 127 0)).names [] = ([(("deeds" : Str), s.heap.objs.size + 1)] : List (Str × Addr)) := by kernel_rfl
    refine ⟨_, _, (hag r (by simp)).trans r8, rfl, notTab _ r0, ⟨by kernel_rfl, fun u v => rfl, by kernel_rfl, rfl⟩, ?_⟩
    exact {
      at_ := ⟨_, (hag r (by simp)).trans r8, rfl⟩
      notTab := notTab _ r0
      body_ := by kernel_rfl
      lim := hh'.lim
      code := ⟨c₂, rfl, notTab _ c0, c₂, occ, vcc, tcc, rfl, (hag c₂ (by simp)).trans hocc, hdcc, hvcc⟩
      plain := ⟨by kernel_rfl, by kernel_rfl, by kernel_rfl⟩
      nodup := by decide
      kinds := fun n hn => by simp at hn; rcases hn with rfl | rfl <;> kernel_rfl
      nocell := by
        have e : ((stScope (stmtAt P 127 0)).names.all fun x => x.2 != .cell) = true := by kernel_rfl
        intro x hx q
        have := List.all_eq_true.mp e x hx
        rw [q] at this; cases this
      apart := fun n n' b h1 h2 => by
        have h1 : (closureOf c.env.cells (stScope (stmtAt P 127 0)).names []).lookup n = some b := h1
        have h2 : (closureOf c.env.cells (stScope (stmtAt P 127 0)).names []).lookup n' = some b := h2
        rw [hcl] at h1 h2
        refine lookup_apart ?_ h1 h2
        simp
      cells := by
        refine ⟨cm8, fun n b e => ?_, fun x d e => ?_⟩
        · have e : (closureOf c.env.cells (stScope (stmtAt P 127 0)).names []).lookup n = some b := e
          rw [hcl] at e
          have := mem_of_lookup e
          simp only [List.mem_cons, List.not_mem_nil, or_false, Prod.mk.injEq] at this
          obtain ⟨rfl, rfl⟩ := this
          exact ⟨notTab _ (fresh_size (Nat.le_succ _)), od, (hag _ (by simp)).trans hod1, hod2⟩
        · split at e
          · rename_i q; cases e; subst q
            exact ⟨by kernel_rfl, by kernel_rfl, vd, hd3, Rep.mono le _ _ hd1⟩
          · cases e }
end Mine
end
section
open PySem PySem.W PyProof.Rows
set_option autoImplicit false
set_option maxRecDepth 100000
namespace Mine
variable {c : Cx} {μ : Vars} {ν : Muts}

theorem FD.forIter {x : Str} {px pos : Pos} {iter : Expr} {body orelse rest : List Stmt} {ds : List D} {P : Flow → Shared → Prop} {E : Value → Shared → Prop} (J : Nat → Vars → Muts → Prop) (B : Vars → Muts → Prop) {s : Shared} (_F : c.F μ ν s)
    (hi : ∀ E, wpAny c.M c.A (eval iter c.env) (fun xv s₁ => wpAny c.M c.A (pyIter xv) (fun it s₂ => ∃ I fp wr Pv St, it = .ref I ∧ c.F μ ν s₂ ∧ Iter c ν s₂ I ds fp wr Pv St) E s₁) E s) (hx : Own c x) (h0 : J 0 μ ν)
    (turn : ∀ g i d μ' ν', ds[i]? = some d → J i μ' ν' → Ex { c with g := g } (upd μ' x d) ν' body (LoopP { c with g := g } (J (i + 1)) B P) (fun _ _ => False))
    (brk : ∀ μ' ν', B μ' ν' → Ex c μ' ν' rest P E)
    (fin : ∀ μ' ν', J ds.length μ' ν' → Ex c μ' ν' orelse (thenP c rest P E) (fun _ _ => False))
    (hs : ∀ v, foldedSetIterable iter c.env v = pure v := by intro _; rfl) :
    wpAny c.M c.A (exec (.For (.Name x px) iter body orelse pos) c.env) (thenP c rest P E) E s := by
  refine wpAny_For ?_ hs
  refine wpAny_mono (hi E) (fun xv s₁ h₁ => wpAny_mono h₁ (fun it s₂ h₂ => ?_) fun _ _ e => e) fun _ _ e => e
  obtain ⟨I, fp, wr, Pv, St, rfl, F₂, K⟩ := h₂
  refine codeAny_forLoop (Between c (Mine.freeze c ν s₂.heap) J ds St) ?_ (ds.length + 1) (Iter.start F₂ K h0)
  intro n s' hb
  refine wpAny_mono (Iter.turn F₂ K (E := fun _ _ => False) n s' hb) (fun r s₃ h₃ => ?_) fun _ _ e => e.elim
  cases r with
  | none =>
    obtain ⟨μ', ν', hJ, F'⟩ := h₃
    exact wpAny_mono (fin μ' ν' hJ _ F') (fun f s₄ h => h) fun _ _ e => e.elim
  | some v =>
    obtain ⟨i, d, μ', ν', g, hd, hJ, G, hr, low, _, next⟩ := h₃
    refine wpAny_assign_Name (FD.store (c := { c with g := g }) (d := d) G hx hr fun s₅ G5 _ => ?_)
    refine wpAny_mono (turn g i d μ' ν' hd hJ s₅ G5) (fun f s₆ h₆ => ?_) fun _ _ e => e.elim
    cases f with
    | next => obtain ⟨μ'', ν'', hJ', G6⟩ := h₆; exact next _ _ _ hJ' G6
    | cont => obtain ⟨μ'', ν'', hJ', G6⟩ := h₆; exact next _ _ _ hJ' G6
    | brk =>
      obtain ⟨μ'', ν'', hB, G6⟩ := h₆
      exact brk μ'' ν'' hB _ (FD.lessG (c := c) G6 low)
    | ret v => exact h₆

/-- a call of a built-in, whatever it brings -/
theorem eval_callB {x : Str} {p pos : Pos} {id : String} {e : Expr} {es : List Expr} {ds : List D} {Q : Value → Shared → Prop} {E : Value → Shared → Prop} {s : Shared} (F : c.F μ ν s) (hf : Ev c μ ν (.Name x p) (.val (.builtin id))) (ha : EvL c μ ν pos (e :: es) ds)
    (hc : ∀ s₂ vs, Kp s s₂ → Reps (mask c.H ν s₂.heap) ds vs → wpAny c.M c.A (call (.builtin id) vs) Q E s₂)
    (he : starEach (e :: es) c.env = (false, eval e c.env) :: starEach es c.env := by rfl) (hp : (backTo pos (starEach es c.env)).any (·.1) = false := by rfl) :
    wpAny c.M c.A (eval (.Call (.Name x p) (e :: es) [] pos) c.env) Q E s := by
  refine wpAny_Call_NameR (wpAny_mono (hf s E F) (fun f s₁ h₁ => ?_) fun _ _ e => e)
  have hfe := h₁.2
  simp only [Rep] at hfe
  subst hfe
  have ha' := ha s₁ E (F.keeps h₁.1)
  rw [he] at ha' ⊢
  refine Calls.callWith_builtin (show (false || (backTo pos (starEach es c.env)).any (·.1)) = false by rw [hp]; rfl) (Calls.evalArgs_plain (wpAny_mono ha' (fun vs s₂ h₂ => ?_) fun _ _ e => e))
  exact hc s₂ vs (h₁.1.trans h₂.1) h₂.2

/-- iter of a list -/
theorem call_iter_list {l : Addr} {items : Array Value} {Q : Value → Shared → Prop} {E : Value → Shared → Prop} {s : Shared} (hl : s.heap.IsList l items)
    (hQ : Q (.ref s.heap.objs.size) { s with heap := s.heap.push { cls := .type "list_iterator", data := .fields #[.ref l, .int 0 0] } }) : wpAny c.M c.A (call (.builtin "iter") [.ref l]) Q E s := by
  refine Calls.call_function_entry (by decide +kernel) (by decide +kernel) kdk_entry_iter (kdk_args_iter _) ?_
  unfold Builtin.«iter»
  refine wpAny_bind (m := someArgs "iter" 1 2 _) (wpAny_of_eq (a := [Value.ref l]) (by first | rfl | kernel_rfl!) ?_)
  show wpAny _ _ (pyIter (.ref l) >>= _) _ _ _
  refine wpAny_bind (wpAny_pyIter_list hl ?_)
  exact wpAny_pure ⟨_, rfl, hQ⟩

/-- all data frozen, and one record -/
noncomputable def freezeAnd (c : Cx) (ν : Muts) (h : Heap) (I : Addr) (oI : Obj) : View := fun b => if b = I then some oI else freeze c ν h b
theorem FD.freezeAnd {s : Shared} {I : Addr} {oI : Obj} (F : c.F μ ν s) (hI : s.heap.get? I = some oI) (hf : Obj.isFields oI = true) : FD { c with g := freezeAnd c ν s.heap I oI } μ ν s := by
  refine F.setG _ (fun b o e => ?_) (fun b l e => ?_)
  · unfold Mine.freezeAnd at e
    split at e
    · rename_i q; cases e; subst q; exact ⟨hI, Or.inr hf⟩
    · exact F.freeze.froz b o e
  · unfold Mine.freezeAnd
    split
    · rename_i q; subst q
      obtain ⟨_, vs, ⟨n, hp⟩, _⟩ := F.muts b l e
      rw [hI] at hp; cases hp
      simp [Obj.isFields] at hf
    · exact F.freeze.frozM b l e
theorem FD.thaw {s s' : Shared} {I : Addr} {oI : Obj} {μ' : Vars} {ν' : Muts} (F : c.F μ ν s) (hI : s.heap.get? I = some oI) (G : FD { c with g := Mine.freezeAnd c ν s.heap I oI } μ' ν' s') : c.F μ' ν' s' := by
  refine FD.lessG G fun b o e => ?_
  have hb := (F.froz b o e).1
  unfold Mine.freezeAnd
  split
  · rename_i q; subst q; rw [hI] at hb; exact hb
  · unfold Mine.freeze; rw [e]
theorem FD.frozen {s s' : Shared} {I : Addr} {oI : Obj} {μ' : Vars} {ν' : Muts} (F : c.F μ ν s) (hI : s.heap.get? I = some oI) (hf : Obj.isFields oI = true) (G : FD { c with g := Mine.freezeAnd c ν s.heap I oI } μ' ν' s') :
    SeqLe (mask c.H ν s.heap) (mask c.H ν' s'.heap) ∧ s'.heap.get? I = some oI := by
  refine ⟨fun b o e q => ?_, (G.froz I oI (by show Mine.freezeAnd c ν s.heap I oI I = _; unfold Mine.freezeAnd; rw [if_pos rfl])).1⟩
  have hg : Mine.freezeAnd c ν s.heap I oI b = some o := by
    unfold Mine.freezeAnd
    split
    · rename_i r; subst r
      rw [(mask_some.mp e).2.2] at hI; cases hI
      exact (seq_not_fields q hf).elim
    · exact freeze_mask (fun o' e' => (F.froz b o' e').1) e q
  have hν' : ν' b = none := by
    cases r : ν' b with
    | none => rfl
    | some l => have := G.frozM b l r; rw [show ({ c with g := Mine.freezeAnd c ν s.heap I oI } : Cx).g b = _ from hg] at this; cases this
  exact mask_some.mpr ⟨(mask_some.mp e).1, hν', (G.froz b o hg).1⟩

variable {P : Params} {prog : Program} {w : World} {hL : Heap}
theorem reduce_at (h : HL P hL) : DefAt hL 23 (fdAt P 23) (bodyAt P 23) ["function", "sequence", "initial"] := def_at h 23 _ 22

/-- as pure_of, the names bound by looking at the heap -/
theorem pure_ofB {a : Addr} {fd : FuncData} {body : List Stmt} {ns : List Str} {ds : List D} {d : D} {need : Nat} (K : DefAt hL a fd body ns) (hlen : ns.length = ds.length)
    (hbind : ∀ (s : Shared) (vs : List Value), Lib hL s.heap → vs.length = ns.length → BindsTo s fd ⟨vs, []⟩ (ns.zip vs))
    (h : ∀ A s H, Room A need → Ex ⟨prog, w, A.deeper (callEnvC fd s.heap.objs.size a), hL, s, fun _ => False, H, noView, callEnvC fd s.heap.objs.size a, fun _ => true, fun b => (noMuts b).isSome = true⟩ (ofParams ns ds) noMuts body
      (fun f s' => ∃ v, f = .ret v ∧ Kp s s' ∧ Rep (mask H noMuts s'.heap) d v) (fun _ _ => False)) : Pure prog w hL a need ds d := by
  intro A s vs H r hlib hid hidL hr
  refine call_defB (X := fun _ => False) (H := H) (ν := noMuts) K (hbind s vs hlib (by rw [hr.length, hlen])) (by have := r.depth; omega) hlib hid hidL (fun b e => by cases e) (fun b l e => by cases e) hr ?_
  intro s₁ F
  refine wpAny_mono (h A s H r s₁ F) (fun f s' hf => ?_) fun _ _ e => e.elim
  obtain ⟨v, rfl, k, hv⟩ := hf
  exact ⟨v, rfl, k, hv⟩

theorem HL.missing (h : HL P hL) : hL.get? 16 = some { cls := .type "tuple", data := .seq #[.ref 15] } := h.K 16 _ (by decide) (by kernel_rfl)

theorem op_is_missing {d : D} {a : Addr} (hd : ∃ i : Int, d = .int i) : Op2 c μ ν (compareOp .Is) d (.val (.ref a)) (.bool false) := fun s E x y F hx hy => by
  obtain ⟨i, rfl⟩ := hd
  simp only [Rep] at hx hy
  obtain ⟨t, rfl⟩ := hx
  subst hy
  exact wpAny_is_other rfl (by intro e; cases e) ⟨Kp.refl s, rfl⟩

theorem reduce_pure (h : HL P hL) {f : Addr} {o : Obj} {fd : FuncData} {need : Nat} {ds : List D} {acc : Nat → D} (ho : hL.get? f = some o) (hfd : o.data = .func fd) (hft : f ∉ tabs)
    (h0 : ∃ i : Int, acc 0 = .int i) (hf : ∀ i d, ds[i]? = some d → Pure prog w hL f need [acc i, d] (acc (i + 1))) : Pure prog w hL 23 (need + 1) [.val (.ref f), .list ds, acc 0] (acc ds.length) := by
  refine pure_ofB (reduce_at h) rfl (fun s vs hl hv => ?_) fun A s H r => ?_
  · have hh : s.heap.get? 16 = some _ := hl.get _ _ (by decide) h.missing
    match vs, hv with
    | [a, b, c], _ =>
      refine kp_binds (K := [(16, { cls := .type "tuple", data := .seq #[.ref 15] })]) ?_ fun S => ?_
      · intro b o' e
        simp only [List.lookup] at e
        split at e
        · rename_i q; cases e; rw [eq_of_beq q]; exact hh
        · cases e
      · kernel_rfl
  refine Ex.cons fun s₁ F₁ => wpAny_Assign_Name (eval_callB (id := "iter") (ds := [.list ds]) F₁ (Ev.builtin (pcx_std h) (by kernel_rfl)) (EvL.cons (Ev.name (d := .list ds) rfl) EvL.nil) fun s₂ vs k₂ r₂ => ?_) rfl
  obtain ⟨v, rfl, hv⟩ := r₂.one
  simp only [Rep] at hv
  obtain ⟨a, items, rfl, hseq, hitems⟩ := hv
  have hl := hseq.isList
  have F₂ := F₁.keeps k₂
  refine call_iter_list hl ?_
  have hne : a ≠ s₂.heap.objs.size := by
    obtain ⟨o, ho, _⟩ := hl
    exact Nat.ne_of_lt (Heap.lt_size ho)
  have kp : Kp s₂ { s₂ with heap := s₂.heap.push { cls := .type "list_iterator", data := .fields #[.ref a, .int 0 0] } } := kp_push
  let c : Cx := ⟨prog, w, A.deeper (callEnvC (fdAt P 23) s.heap.objs.size 23), hL, s, fun _ => False, H, noView, callEnvC (fdAt P 23) s.heap.objs.size 23, fun _ => true, fun b => (noMuts b).isSome = true⟩
  let oI : Obj := { cls := .type "list_iterator", data := .fields #[.ref a, .int 0 0] }
  have freshI : s₂.heap.get? s₂.heap.objs.size = none := fresh_size (Nat.le_refl _)
  refine FD.store (c := c) (d := .val (.ref s₂.heap.objs.size)) (F₂.keeps kp) (Or.inl (by kernel_rfl)) rfl fun s₃ F₃ st₃ => ?_
  have hI₃ : s₃.heap.get? s₂.heap.objs.size = some oI := st₃.data _ _ (Heap.get?_push_size _ rfl) (Or.inr rfl)
  have le₃ : SeqLe (mask H noMuts s₂.heap) (mask H noMuts s₃.heap) := mask_le fun b o _ hs e => st₃.data b o (Heap.get?_push_of_some _ e) (Or.inl hs)
  have G₃ := F₃.freezeAnd hI₃ rfl
  let c' : Cx := { c with g := Mine.freezeAnd c noMuts s₃.heap s₂.heap.objs.size oI }
  refine (?_ : Ex c' (upd (ofParams ["function", "sequence", "initial"] [D.val (.ref f), D.list ds, acc 0]) "it" (.val (.ref s₂.heap.objs.size))) noMuts _ _ _) s₃ G₃
  have S : Std P c' := ⟨h, by kernel_rfl, by kernel_rfl⟩
  refine Ex.ite (EvB.cmp (b := false) (Ev.name rfl) (Ev.global S (v := .ref 15)) (op_is_missing h0)) (fun e => by cases e) fun _ => ?_
  refine Ex.assign (Ev.name rfl) (Or.inl (by kernel_rfl)) ?_
  refine Ex.nil (Ex.then ?_)
  refine Ex.cons fun s₄ G₄ => ?_
  obtain ⟨le₄, hI₄⟩ := F₃.frozen hI₃ rfl G₄
  have F₄ := F₃.thaw hI₃ G₄
  have hseq₄ := (hseq.mono le₃).mono le₄
  have hitems₄ := Reps.mono le₄ _ _ (Reps.mono le₃ _ _ hitems)
  have hlen : items.size = ds.length := by rw [← hitems.length]; simp
  refine FD.forIter (c := c) (ds := ds) (fun i μ' ν' => ν' = noMuts ∧ μ' "function" = some (.val (.ref f)) ∧ μ' "value" = some (acc i)) (fun _ _ => False) F₄ (fun E => ?_) (Or.inl (by kernel_rfl)) ⟨rfl, rfl, rfl⟩ ?_ (fun _ _ e => e.elim) ?_
  · refine wpAny_mono ((Ev.name rfl : Ev c (upd (upd (ofParams ["function", "sequence", "initial"] [D.val (.ref f), D.list ds, acc 0]) "it" (.val (.ref s₂.heap.objs.size))) "value" (acc 0)) noMuts _ (.val (.ref s₂.heap.objs.size))) s₄ E F₄) (fun v s₅ h₅ => ?_) fun _ _ e => e
    have hv5 := h₅.2
    simp only [Rep] at hv5
    subst hv5
    have F₅ := F₄.keeps h₅.1
    have hit : s₅.heap.IsListIter s₂.heap.objs.size a 0 := ⟨_, h₅.1.get _ _ hI₄, rfl, rfl⟩
    have hl₅ : s₅.heap.IsList a items := (hseq₄.mono (mask_keeps h₅.1)).isList
    refine wpAny_pyIter_listiter hit ⟨_, [s₂.heap.objs.size, a], [s₂.heap.objs.size], fun i v => items[i]? = some v, fun i h => h.IsListIter s₂.heap.objs.size a i ∧ h.IsList a items, rfl, F₅, ?_⟩
    exact {
      walks := hlen ▸ Walks.list (show c.A.handled = none from r.handled) _ a hne items
      st := ⟨hit, hl₅⟩
      fpOk := fun b hb => by
        simp only [List.mem_cons, List.not_mem_nil, or_false] at hb
        rcases hb with rfl | rfl
        · exact Or.inl (by simp)
        · obtain ⟨o, ho, hc, _, n, hd⟩ := hseq₄.mono (mask_keeps h₅.1)
          obtain ⟨q1, q2, q3⟩ := mask_some.mp ho
          exact Or.inr (Or.inl ⟨o, q3, by simp [Obj.isSeq, hd], q1, q2⟩)
      wrOk := fun b hb => by
        simp only [List.mem_cons, List.not_mem_nil, or_false] at hb
        subst hb
        refine ⟨?_, F₂.lib.fresh freshI, rfl, fun q => ?_, fun q => ?_⟩
        · cases q : s.heap.get? s₂.heap.objs.size with
          | none => rfl
          | some o => have := F₂.live _ o q; rw [freshI] at this; cases this
        · have := F₂.hid _ q; rw [freshI] at this; cases this
        · have := F₂.lib.tab _ q; rw [freshI] at this; cases this
      fields := fun i h st b hb => by
        simp only [List.mem_cons, List.not_mem_nil, or_false] at hb
        subst hb
        obtain ⟨⟨o, ho, _, hd⟩, _⟩ := st
        exact ⟨o, ho, by simp [Obj.isFields, hd]⟩
      vals := fun i v d hv' hd => by
        obtain ⟨u, hu, hr⟩ := hitems₄.get hd
        have : items[i]? = some u := by simpa using hu
        rw [this] at hv'; cases hv'
        exact hr.keeps h₅.1 }
  · rintro g i d μ' ν' hd ⟨rfl, hf1, hv1⟩
    refine Ex.assign (d := acc (i + 1)) (Ev.callF (Ev.name (d := .val (.ref f)) (by exact hf1)) ho hfd hft (EvL.cons (Ev.name (d := acc i) (by exact hv1)) (EvL.cons (Ev.name (d := d) rfl) EvL.nil)) (CallIs.ofPure (Room.deeper r) (hf i d hd))) (Or.inl (by kernel_rfl)) ?_
    refine Ex.nil fun s₆ F₆ => ⟨_, _, ⟨rfl, ?_, ?_⟩, F₆⟩
    · exact hf1
    · rfl
  · rintro μ' ν' ⟨rfl, hf1, hv1⟩
    refine Ex.nil fun s₆ F₆ => ?_
    refine (?_ : Ex c μ' noMuts _ _ _) s₆ F₆
    refine Ex.ret (Ev.name hv1) fun v s₇ F₇ hv => ?_
    exact ⟨v, rfl, F₇.kp fun _ e => e, hv⟩
end Mine
end
section
open PySem PySem.W PyProof.Rows
set_option autoImplicit false
set_option maxRecDepth 100000
namespace Mine

/-- what is known of a lambda without names from outside -/
structure LamAt (hL : Heap) (a : Addr) (fd : FuncData) (body : Expr) (ns : List Str) : Prop where
  at_ : ∃ o, hL.get? a = some o ∧ o.data = .func fd
  notTab : a ∉ tabs
  body_ : fd.body = .expr body
  lim : hL.NoLimit
  code : ∃ cd, fd.code = .ref cd ∧ cd ∉ tabs ∧ hL.CodeRec fd.code fd.qualname
  plain : fd.scope.isCoroutine = false ∧ fd.scope.isGenerator = false ∧ fd.scope.kind = .function
  nodup : ns.Nodup
  kinds : ∀ n ∈ ns, fd.scope.names.lookup n = some .local
  nocell : ∀ x ∈ fd.scope.names, x.2 ≠ .cell
  clo : fd.closure = []

variable {prog : Program} {w : World} {hL : Heap}
theorem pure_lam {a : Addr} {fd : FuncData} {body : Expr} {ns : List Str} {ds : List D} {d : D} {need : Nat} (K : LamAt hL a fd body ns) (hlen : ns.length = ds.length)
    (hbind : ∀ vs : List Value, vs.length = ns.length → bindArgs fd ⟨vs, []⟩ = pure (ns.zip vs))
    (h : ∀ A s H, Room A need → Ev ⟨prog, w, A.deeper (callEnv fd s.heap.objs.size a), hL, s, fun _ => False, H, noView, callEnv fd s.heap.objs.size a, fun _ => false, fun b => (noMuts b).isSome = true⟩ (ofParams ns ds) noMuts body d) : Pure prog w hL a need ds d := by
  intro A s vs H r hlib hid hidL hr
  obtain ⟨o, ho, hfd⟩ := K.at_
  obtain ⟨cd, hcd, hct, hrec⟩ := K.code
  refine kla_callFunE (by have := r.depth; omega) (hlib.get _ _ K.notTab ho) hfd K.plain.1 K.plain.2.1 K.body_ (hcd ▸ hlib.coderec hct (hcd ▸ hrec)) ?_
  rw [hbind vs (by rw [hr.length, hlen])]
  refine wpAny_pure ?_
  refine wpAny_newFunctionEnv K.nocell (fun x hx => K.kinds x.1 (zip_fst_mem hx)) (fun h₀ hn hsb => ⟨(hlib.nolimit K.lim).fresh _ hsb, kla_codeExpr ?_⟩) K.plain.2.2
  have hk : ∀ b o, s.heap.get? b = some o → h₀.get? b = some o := fun b o e => hsb.extBut b o (Nat.ne_of_lt (Heap.lt_size e)) (Heap.get?_push_of_some _ e)
  generalize hs₁ : ({ s with heap := h₀, toks := s.toks + (ns.zip vs).length } : Shared) = s₁
  have kp : Kp s s₁ := by subst hs₁; exact ⟨h₀, _, rfl, hk⟩
  have hn₁ : s₁.heap.Ns s.heap.objs.size (fun x => (ns.zip vs).reverse.lookup x) := by subst hs₁; exact hn
  have F : FD ⟨prog, w, A.deeper (callEnv fd s.heap.objs.size a), hL, s, fun _ => False, H, noView, callEnv fd s.heap.objs.size a, fun _ => false, fun b => (noMuts b).isSome = true⟩ (ofParams ns ds) noMuts s₁ := {
    same := kp.elim fun h ⟨tk, e, _⟩ => ⟨h, tk, e⟩
    keep := fun b o' _ e => kp.get b o' e
    live := fun b o' e => by rw [kp.get b o' e]; rfl
    froz := fun b o' e => by cases e
    frozM := fun _ _ _ => rfl
    dom := fun _ h => h
    newM := fun _ h => Or.inl h
    lib := hlib.mono kp.get
    fn := K.plain.2.2
    hid := fun b hb => by
      obtain ⟨o', e⟩ := Option.isSome_iff_exists.mp (hid b hb)
      rw [kp.get b o' e]; rfl
    hidL := hidL
    mutH := fun b e => by cases e
    freshL := ⟨hlib.fresh (fresh_size (Nat.le_refl _)), fresh_size (Nat.le_refl _)⟩
    freshC := fun n b q _ => by cases q
    apart := fun n n' b e => by
      have e : fd.closure.lookup n = some b := e
      rw [K.clo] at e; cases e
    vars := ⟨_, fun _ => none, hn₁, fun n b e => (by
        have e : fd.closure.lookup n = some b := e
        rw [K.clo] at e; cases e), fun x d e => by
        obtain ⟨v, hv, hd⟩ := params_mem hr e
        exact ⟨v, Rep.keeps hd kp, Or.inl ⟨K.kinds x (zip_fst_mem hv), zip_lookup K.nodup hv⟩⟩⟩
    muts := fun b l e => by cases e }
  refine wpAny_mono (h A s H r s₁ _ F) (fun v s' hv => ?_) fun _ _ e => e
  exact ⟨v, rfl, kp.trans hv.1, hv.2⟩
end Mine
end
section
open PySem PySem.W PyProof.Rows
set_option autoImplicit false
set_option maxRecDepth 100000
namespace Mine
section
variable {prog : Program} {w : World} {A : Around} {E : Value → Shared → Prop} {s : Shared}

theorem sub_enum : isSubtype (.type "enumerate") (.type "enumerate") = pure true := by rw [isSubtype_type]; kernel_rfl

/-- enumerate of a tuple is made -/
theorem meets_enum_tuple (l : Addr) (items : Array Value) (n : Nat) (dct : Option Addr) (sl : Array (Option Value)) :
    Meets (Builtin.«enumerate.__new__» ⟨[.type "enumerate", .ref l], []⟩) (fun _ R s => s.heap.get? l = some { cls := .type "tuple", dict := dct, data := .seq items n, slots := sl } ∧
      R (.ok (.ret (.ref (s.heap.push { cls := .type "tuple_iterator", data := .fields #[.ref l, .int 0 0] }).objs.size)))
        { s with heap := (s.heap.push { cls := .type "tuple_iterator", data := .fields #[.ref l, .int 0 0] }).push { cls := .type "enumerate", data := .fields #[.none, .bool false, .ref s.heap.objs.size, rawInt 0, .none, .none] } }) :=
  .of_wp fun prog w A R s h => by
    obtain ⟨hp, g, d, tk, os⟩ := s
    obtain ⟨hl, h⟩ := h
    have hsub := sub_enum
    have hT : Heap.IsTuple (Shared.heap ⟨hp, g, d, tk, os⟩) l items := ⟨_, hl, rfl, n, rfl⟩
    wp_walk using AutoSeq1.wpAny_loadPart' hl
    refine wpAny_stack_any fun st => wpAny_pure ?_
    split
    · rename_i c _ _ _ _ _
      cases (c == Value.type "enumerate") <;>
      · wp_walk using AutoSeq1.wpAny_loadPart' hl, wpAny_pyIter_tuple hT
        exact ⟨_, rfl, h⟩
    · wp_walk using AutoSeq1.wpAny_loadPart' hl, wpAny_pyIter_tuple hT
      exact ⟨_, rfl, h⟩

theorem call_enum_tuple {l : Addr} {items : Array Value} {Q : Value → Shared → Prop} (hT : s.heap.IsTuple l items)
    (h : ∀ h', IsEnum h' (s.heap.objs.size + 1) s.heap.objs.size 0 .none → h'.IsTupleIter s.heap.objs.size l 0 →
      (∀ b o, s.heap.get? b = some o → h'.get? b = some o) → Q (.ref (s.heap.objs.size + 1)) { s with heap := h' }) :
    wpAny (model prog w) A (call (.type "enumerate") [.ref l]) Q E s := by
  obtain ⟨⟨c, dct, dt, sl⟩, hl, hc, n, hd⟩ := hT
  replace hc : c = .type "tuple" := hc
  replace hd : dt = .seq items n := hd
  subst hc hd
  refine callType_new F.called_enumerate (by decide) (F.typeCall_enumerate_1 _) (F.newCall_enumerate_1 _) (fun obj => F.args_object_init_2 obj _) F.entry_enumerate_new
    (meets_enum_tuple l items n dct sl) ⟨hl, ?_⟩
  generalize hh₁ : s.heap.push { cls := .type "tuple_iterator", data := .fields #[.ref l, .int 0 0] } = h₁
  have hz : h₁.objs.size = s.heap.objs.size + 1 := by rw [← hh₁]; exact Heap.size_push ..
  show _ ∧ _
  rw [hz]
  have he : IsEnum (h₁.push { cls := .type "enumerate", data := .fields #[.none, .bool false, .ref s.heap.objs.size, rawInt 0, .none, .none] }) (s.heap.objs.size + 1) s.heap.objs.size 0 .none := by
    have := Heap.get?_push_size h₁ (o := { cls := .type "enumerate", data := .fields #[.none, .bool false, .ref s.heap.objs.size, rawInt 0, .none, .none] }) rfl
    rw [hz] at this; exact this
  have k1 : ∀ b o, s.heap.get? b = some o → h₁.get? b = some o := fun b o x => by rw [← hh₁]; exact Heap.get?_push_of_some _ x
  have i1 : h₁.get? s.heap.objs.size = some { cls := .type "tuple_iterator", data := .fields #[.ref l, .int 0 0] } := by rw [← hh₁]; exact Heap.get?_push_size _ rfl
  exact ⟨⟨_, he, rfl⟩, h _ he ⟨_, Heap.get?_push_of_some _ i1, rfl, rfl⟩ fun b o x => Heap.get?_push_of_some _ (k1 b o x)⟩

/-- the next of a tuple's iterator, asked by a built-in -/
theorem nextOf_tuple {it l : Addr} {i : Nat} {items : Array Value} {x : Value} {Q : Value → Shared → Prop} (hit : s.heap.IsTupleIter it l i) (hl : s.heap.IsTuple l items) (hx : items[i]? = some x)
    (hQ : ∀ h', h'.IsTupleIter it l (i + 1) → Heap.SameBut it s.heap h' → Q x { s with heap := h' }) : wpAny (model prog w) A (Builtin.SmallTypes.nextOf (.ref it)) Q E s := by
  obtain ⟨o, ho, hc, hd⟩ := id hit
  obtain ⟨ol, hol, _, nl, hdl⟩ := hl
  unfold Builtin.SmallTypes.nextOf
  refine wpAny_bind (wpAny_callSpecial?_slot (name := Str.ofString "__next__") hit.typeIs F.slot_tuple_iterator_next (wpAny_call_entry F.slot_tuple_iterator_next hit.typeIs F.entry_tuple_iterator_next ?_ (F.args_tuple_iterator_next_1 _)))
  show wpAny _ _ (field (.ref it) 0 >>= _) _ _ s
  refine wpAny_bind (wpAny_field ho hd (x := .ref l) rfl ?_)
  show wpAny _ _ (if (Value.ref l == Value.none) = true then _ else _) _ _ s
  rw [if_neg (show ¬ ((Value.ref l == Value.none) = true) from Bool.false_ne_true)]
  show wpAny _ _ (field (.ref it) 1 >>= _) _ _ s
  refine wpAny_bind (wpAny_field ho hd (x := .int i 0) rfl ?_)
  show wpAny _ _ (seqItems? (.ref l) >>= _) _ _ s
  refine wpAny_bind (wpAny_seqItems hol hdl ?_)
  simp only [Int.toNat_natCast, hx]
  refine wpAny_bind (wpAny_setField ho hd (by simp) (wpAny_pure ⟨x, rfl, wpAny_pure (hQ _ ?_ (Heap.SameBut.update ..))⟩))
  exact ⟨_, Heap.get?_update_self _ ho (Obj.isFreed_of_fields (Obj.data_mapFields hd _)), (Obj.cls_mapFields ..).trans hc, by rw [Obj.data_mapFields hd]; simp [rawInt]⟩

abbrev EnumRec (h : Heap) (e : Addr) (vs : Array Value) : Prop := h.get? e = some { cls := .type "enumerate", dict := none, data := .fields vs, slots := #[] }

/-- one more pair of enumerate upon a tuple -/
theorem pyNext_enum_tuple {e it l : Addr} {i : Nat} {items : Array Value} {x old : Value} {Q : Option Value → Shared → Prop}
    (he : IsEnum s.heap e it i old) (hit : s.heap.IsTupleIter it l i) (hl : s.heap.IsTuple l items) (hx : items[i]? = some x) (hne : e ≠ it)
    (hQ : ∀ h', IsEnumOut h' e it ((i : Int) + 1) x s.heap.objs.size → h'.IsTupleIter it l (i + 1) → h'.get? s.heap.objs.size = some { cls := .type "tuple", data := .seq #[.int i s.toks, x] } →
      (∀ b o, b ≠ e → b ≠ it → s.heap.get? b = some o → h'.get? b = some o) → Q (some (.ref s.heap.objs.size)) { s with heap := h', toks := s.toks + 1 }) : wpAny (model prog w) A (pyNext (.ref e)) Q E s := by
  have hT : s.TypeIs (.ref e) "enumerate" := ⟨_, he, rfl⟩
  unfold pyNext
  refine wpAny_bind (wpAny_attempt (wpAny_callSpecial?_slot (name := Str.ofString "__next__") hT F.slot_enumerate_next (wpAny_call_entry F.slot_enumerate_next hT F.entry_enumerate_next ?_ (F.args_enumerate_next_1 _))))
  obtain ⟨hp, g, d, tk, os⟩ := s
  have hlt : e < hp.objs.size := Heap.lt_size he
  show wpAny _ _ (field (.ref e) 2 >>= _) _ _ _
  refine wpAny_bind (wpAny_field he rfl (x := .ref it) rfl (wpAny_bind (nextOf_tuple hit hl hx fun h₁ hit₁ s1 => ?_)))
  have e1 : EnumRec h₁ e _ := (s1.2 e hne).trans he
  show wpAny _ _ (field (.ref e) 3 >>= _) _ _ _
  refine wpAny_bind (wpAny_field e1 rfl (x := rawInt i) rfl ?_)
  show wpAny _ _ (field (.ref e) 4 >>= _) _ _ _
  refine wpAny_bind (wpAny_field e1 rfl (x := .none) rfl ?_)
  show wpAny _ _ (mkInt i >>= _) _ _ _
  refine wpAny_bind (wpAny_mkInt ?_)
  show wpAny _ _ (setField (.ref e) 3 (rawInt ((i : Int) + 1)) >>= _) _ _ _
  refine wpAny_bind (wpAny_setField_rec e1 (by simp) fun h₂ e2 s2 => ?_)
  show wpAny _ _ (setField (.ref e) 4 .none >>= _) _ _ _
  refine wpAny_bind (wpAny_setField_rec e2 (by simp) fun h₃ e3 s3 => ?_)
  show wpAny _ _ (newTuple [.int i tk, x] >>= _) _ _ _
  refine wpAny_bind (wpAny_newTuple ?_)
  have s13 : ∀ b o, b ≠ e → b ≠ it → hp.get? b = some o → h₃.get? b = some o := fun b o q r z => (s3.2 b q).trans ((s2.2 b q).trans ((s1.2 b r).trans z))
  have hit3 : h₃.IsTupleIter it l (i + 1) := (hit₁.extBut s2.extBut (Ne.symm hne)).extBut s3.extBut (Ne.symm hne)
  have z3 : h₃.objs.size = hp.objs.size := s3.1.trans (s2.1.trans s1.1)
  generalize hh₄ : ({ heap := h₃, gens := g, drawn := d, toks := tk + 1, os := os } : Shared).heap.push { cls := .type "tuple", data := .seq #[.int i tk, x] } = h₄
  have e3' : IsEnum h₃ e it ((i : Int) + 1) old := e3
  have e4 : IsEnum h₄ e it ((i : Int) + 1) old := by rw [← hh₄]; exact Heap.get?_push_of_some _ e3'
  have s4 : ∀ b o, h₃.get? b = some o → h₄.get? b = some o := fun b o z => by rw [← hh₄]; exact Heap.get?_push_of_some _ z
  have t4 : h₄.get? hp.objs.size = some { cls := .type "tuple", data := .seq #[.int i tk, x] } := by rw [← hh₄, ← z3]; exact Heap.get?_push_size _ rfl
  have hit4 : h₄.IsTupleIter it l (i + 1) := let ⟨o, ho, r⟩ := hit3; ⟨o, s4 _ _ ho, r⟩
  rw [show ({ heap := h₃, gens := g, drawn := d, toks := tk + 1, os := os } : Shared).heap.objs.size = hp.objs.size from z3]
  clear hh₄ e3 e3' e2 e1
  show wpAny _ _ (Builtin.SmallTypes.ownedTupleIsFree (.ref e) >>= _) _ _ _
  refine wpAny_bind ?_
  unfold Builtin.SmallTypes.ownedTupleIsFree
  refine wpAny_bind (wpAny_field e4 rfl (x := .none) rfl (wpAny_pure ?_))
  rw [if_pos rfl]
  refine wpAny_bind (wpAny_rule (wpAny_bind (wpAny_field e4 rfl (x := old) rfl (wpAny_bind (wpAny_setField_rec e4 (by simp) fun h₅ e5 s5 => ?_)))))
  have e5' : IsEnum h₅ e it ((i : Int) + 1) x := e5
  show wpAny _ _ (Builtin.SmallTypes.ownedTupleHandOut (.ref e) (.ref hp.objs.size) >>= _) _ _ _
  refine wpAny_bind ?_
  unfold Builtin.SmallTypes.ownedTupleHandOut
  refine wpAny_bind (wpAny_setField_rec e5' (by simp) fun h₆ e6 s6 => ?_)
  have e6' : IsEnumOut h₆ e it ((i : Int) + 1) x hp.objs.size := e6
  refine wpAny_setField_rec e6' (by simp) fun h₇ e7 s7 => ?_
  have e7' : IsEnumOut h₇ e it ((i : Int) + 1) x hp.objs.size := e7
  have s47 : ∀ b o, b ≠ e → h₄.get? b = some o → h₇.get? b = some o := fun b o q z => (s7.2 b q).trans ((s6.2 b q).trans ((s5.2 b q).trans z))
  refine wpAny_bind (wpAny_letGo (wpAny_pure ⟨_, rfl, wpAny_pure (hQ h₇ e7' ?_ (s47 _ _ (Nat.ne_of_gt hlt) t4) fun b o q r z => s47 b o q (s4 b o (s13 b o q r z)))⟩))
  obtain ⟨o, ho, r⟩ := hit4
  exact ⟨o, s47 _ _ (Ne.symm hne) ho, r⟩

theorem nextOf_tuple_end {it l : Addr} {i : Nat} {items : Array Value} {Q : Value → Shared → Prop} (hh : A.handled = none) (hit : s.heap.IsTupleIter it l i) (hl : s.heap.IsTuple l items) (hx : items[i]? = none)
    (hE : ∀ h' e, Heap.ExtBut it s.heap h' → (∃ o, h'.get? e = some o ∧ o.cls = .type "StopIteration") → E (.ref e) { s with heap := h' }) : wpAny (model prog w) A (Builtin.SmallTypes.nextOf (.ref it)) Q E s := by
  obtain ⟨o, ho, hc, hd⟩ := id hit
  obtain ⟨ol, hol, _, nl, hdl⟩ := hl
  unfold Builtin.SmallTypes.nextOf
  refine wpAny_bind (wpAny_callSpecial?_slot (name := Str.ofString "__next__") hit.typeIs F.slot_tuple_iterator_next (wpAny_call_entry F.slot_tuple_iterator_next hit.typeIs F.entry_tuple_iterator_next ?_ (F.args_tuple_iterator_next_1 _)))
  show wpAny _ _ (field (.ref it) 0 >>= _) _ _ s
  refine wpAny_bind (wpAny_field ho hd (x := .ref l) rfl ?_)
  show wpAny _ _ (if (Value.ref l == Value.none) = true then _ else _) _ _ s
  rw [if_neg (show ¬ ((Value.ref l == Value.none) = true) from Bool.false_ne_true)]
  show wpAny _ _ (field (.ref it) 1 >>= _) _ _ s
  refine wpAny_bind (wpAny_field ho hd (x := .int i 0) rfl ?_)
  show wpAny _ _ (seqItems? (.ref l) >>= _) _ _ s
  refine wpAny_bind (wpAny_seqItems hol hdl ?_)
  simp only [Int.toNat_natCast, hx]
  refine wpAny_bind (wpAny_rule (wpAny_bind (wpAny_setField ho hd (by simp) ?_)))
  show wpAny _ _ (newExc (.type "StopIteration") [] >>= _) _ _ _
  refine wpAny_bind ?_
  simp only [newExc, newTuple]
  refine wpAny_bind (wpAny_newObj_type ?_ (by size_fits))
  refine wpAny_bind (m := firstArgMember _ _) (wpAny_of_eq (a := Value.none) (by first | rfl | (simp only [firstArgMember]; rfl)) ?_)
  refine wpAny_newObj_type ?_ (by size_fits)
  simp only [raiseNew]
  refine wpAny_bind (wpAny_handled ?_)
  first | rw [show A.in1.handled = none from hh] | rw [hh]
  refine wpAny_bind (wpAny_pure (wpAny_throw ?_))
  exact hE _ _ (((Heap.SameBut.update ..).extBut.push _).push _) ⟨_, Heap.get?_push_size _ rfl, rfl⟩

theorem pyNext_enum_tuple_end {e it l : Addr} {i : Nat} {items : Array Value} {old : Value} {Q : Option Value → Shared → Prop} (hh : A.handled = none) (he : IsEnum s.heap e it i old) (hit : s.heap.IsTupleIter it l i) (hl : s.heap.IsTuple l items) (hx : items[i]? = none)
    (hQ : ∀ h', Heap.ExtBut it s.heap h' → Q none { s with heap := h' }) : wpAny (model prog w) A (pyNext (.ref e)) Q E s := by
  have hT : s.TypeIs (.ref e) "enumerate" := ⟨_, he, rfl⟩
  unfold pyNext
  refine wpAny_bind (wpAny_attempt (wpAny_callSpecial?_slot (name := Str.ofString "__next__") hT F.slot_enumerate_next (wpAny_call_entry F.slot_enumerate_next hT F.entry_enumerate_next ?_ (F.args_enumerate_next_1 _))))
  show wpAny _ _ (field (.ref e) 2 >>= _) _ _ _
  refine wpAny_bind (wpAny_field he rfl (x := .ref it) rfl (wpAny_bind (nextOf_tuple_end hh hit hl hx fun h' x he' hx' => ?_)))
  obtain ⟨o, ho, hc⟩ := hx'
  exact wpAny_bind (wpAny_isInstance (T := "StopIteration") (b := true) ⟨o, ho, hc⟩ isSubtype_stop (wpAny_pure (hQ _ he')))

/-- the walk of enumerate upon a tuple -/
theorem walks_enum_tuple (hh : A.handled = none) (e it l : Addr) (hei : e ≠ it) (hle : l ≠ e) (hli : l ≠ it) (items : Array Value) :
    WalksU prog w A e [e, it, l] [e, it] items.size (fun i vals => ∃ t x, items[i]? = some x ∧ vals = #[.int i t, x])
      (fun i h => (∃ old, IsEnum h e it i old) ∧ h.IsTupleIter it l i ∧ h.IsTuple l items)
      (fun i T h => (∃ x, IsEnumOut h e it ((i : Int) + 1) x T) ∧ h.IsTupleIter it l (i + 1) ∧ h.IsTuple l items ∧ T ≠ e ∧ T ≠ it) where
  sub := fun b hb => by simp at hb ⊢; rcases hb with rfl | rfl <;> simp
  frame := fun i h h' hst hk => by
    obtain ⟨⟨old, he⟩, ⟨o, ho, r⟩, ⟨o', ho', r'⟩⟩ := hst
    exact ⟨⟨old, hk e (by simp) _ he⟩, ⟨o, hk it (by simp) _ ho, r⟩, ⟨o', hk l (by simp) _ ho', r'⟩⟩
  item := fun i s Q E hi hst hQ => by
    obtain ⟨⟨old, he⟩, hit, hl⟩ := hst
    have hx : items[i]? = some items[i] := Array.getElem?_eq_getElem hi
    refine pyNext_enum_tuple he hit hl hx hei fun h' ho hit' hT hk => ?_
    have helt : e < s.heap.objs.size := Heap.lt_size he
    have hilt : it < s.heap.objs.size := by obtain ⟨_, x, _⟩ := hit; exact Heap.lt_size x
    exact hQ s.heap.objs.size #[.int i s.toks, items[i]] h' (s.toks + 1) ⟨_, _, hx, rfl⟩ ⟨_, hT, rfl, _, rfl⟩
      ⟨⟨_, ho⟩, hit', (let ⟨o, z, r⟩ := hl; ⟨o, hk l o hle hli z, r⟩), Nat.ne_of_gt helt, Nat.ne_of_gt hilt⟩
      fun b o hb x => hk b o (fun e' => hb (by simp [e'])) (fun e' => hb (by simp [e'])) x
  go := fun elts k pos i T s Q E hm hQ => by
    obtain ⟨⟨x, ho⟩, hit, hl, hTe, hTi⟩ := hm
    refine wpAny_letOwnedTupleGo_enum ho fun h' he' hs' => hQ h' ⟨⟨x, by simpa using he'⟩, hit.extBut hs'.extBut hei.symm, hl.extBut hs'.extBut hle⟩ fun b o hb y => ?_
    exact (hs'.2 b fun e' => hb (by simp [e'])).trans y
  apart := fun i T h hm hT => by
    obtain ⟨_, _, _, hTe, hTi⟩ := hm
    simp at hT
    rcases hT with rfl | rfl
    · exact hTe rfl
    · exact hTi rfl
  done := fun s Q E hst hQ => by
    obtain ⟨⟨old, he⟩, hit, hl⟩ := hst
    exact pyNext_enum_tuple_end hh he hit hl (Array.getElem?_eq_none (Nat.le_refl _)) fun h' hx => hQ h' s.toks fun b o hb y => hx b o (fun e' => hb (by simp [e'])) y
  self := fun i s Q E hst hQ => by
    obtain ⟨⟨old, he⟩, _, _⟩ := hst
    exact wpAny_pyIter_enum he hQ
end
end Mine
end
section
open PySem PySem.W PyProof.Rows
set_option autoImplicit false
set_option maxRecDepth 100000
namespace Mine
section
variable {prog : Program} {w : World} {A : Around} {E : Value → Shared → Prop} {s : Shared}

theorem owned_tupleiter {elts : List Expr} {x1 : Nat} {pos : Pos} {I l T : Addr} {i : Nat} {Q : Unit → Shared → Prop} (hit : s.heap.IsTupleIter I l i) (hQ : Q () s) :
    wpAny (model prog w) A (letOwnedTupleGo (.Tuple elts x1 pos) (.ref I) (.ref T)) Q E s := by
  obtain ⟨o, ho, hc, hd⟩ := hit
  unfold letOwnedTupleGo
  refine wpAny_bind (wpAny_load ho ?_)
  rw [hc, hd]
  dsimp only
  split
  · rename_i h
    rw [show (["enumerate", "zip", "dict_itemiterator", "dict_reverseitemiterator", "odict_iterator", "itertools.zip_longest", "itertools.pairwise"].contains "tuple_iterator") = false from by decide, Bool.false_and] at h
    cases h
  · exact wpAny_pure hQ

theorem walks_pairs (hh : A.handled = none) (I ax : Addr) (hne : ax ≠ I) (items : Array Value) (Ts : Nat → Addr) (vals : Nat → Array Value) (hit : ∀ j, j < items.size → items[j]? = some (.ref (Ts j))) (hTI : ∀ j, j < items.size → Ts j ≠ I) :
    WalksU prog w A I (I :: ax :: (List.range items.size).map Ts) [I] items.size (fun j v => v = vals j)
      (fun j h => h.IsTupleIter I ax j ∧ h.IsTuple ax items ∧ ∀ k, k < items.size → h.IsTuple (Ts k) (vals k))
      (fun j T h => (j < items.size ∧ T = Ts j) ∧ h.IsTupleIter I ax (j + 1) ∧ h.IsTuple ax items ∧ ∀ k, k < items.size → h.IsTuple (Ts k) (vals k)) where
  sub := fun b hb => by simp at hb; simp [hb]
  frame := fun _ _ _ st hk => by
    obtain ⟨⟨o, ho, r⟩, ⟨o', ho', r'⟩, h3⟩ := st
    refine ⟨⟨o, hk I (by simp) o ho, r⟩, ⟨o', hk ax (by simp) o' ho', r'⟩, fun k hk' => ?_⟩
    obtain ⟨o2, ho2, r2⟩ := h3 k hk'
    exact ⟨o2, hk (Ts k) (List.mem_cons_of_mem _ (List.mem_cons_of_mem _ (List.mem_map.mpr ⟨k, List.mem_range.mpr hk', rfl⟩))) o2 ho2, r2⟩
  item := fun i s Q E hi st hQ => by
    refine wpAny_pyNext_tuple_item st.1 st.2.1 (x := .ref (Ts i)) (hit i hi) fun h' hit' hs' => ?_
    have tup : ∀ k, k < items.size → h'.IsTuple (Ts k) (vals k) := fun k hk' => (st.2.2 k hk').extBut hs'.extBut (hTI k hk')
    exact hQ (Ts i) (vals i) h' s.toks rfl (tup i hi) ⟨⟨hi, rfl⟩, hit', st.2.1.extBut hs'.extBut hne, tup⟩ fun b o hb e => hs'.extBut b o (fun h => hb (by simp [h])) e
  go := fun _ _ _ _ _ s Q _ hm hQ => owned_tupleiter hm.2.1 (hQ s.heap hm.2 fun _ _ _ e => e)
  apart := fun j T _ hm hmem => by
    simp at hmem
    exact hTI j hm.1.1 (hm.1.2 ▸ hmem)
  done := fun s Q E st hQ => wpAny_pyNext_tuple_end hh st.1 st.2.1 (by simp) fun h' he' => hQ h' s.toks fun b o hb e => he' b o (fun h => hb (by simp [h])) e
  self := fun _ _ _ _ st hQ => wpAny_pyIter_tupleiter st.1 hQ
end

variable {c : Cx} {μ : Vars} {ν : Muts}
/-- an iterator of pairs that stands in the frame -/
structure IterU (c : Cx) (ν : Muts) (s₂ : Shared) (I : Addr) (ds : List (D × D)) (fp wr : List Addr) (Pt : Nat → Array Value → Prop) (St : Nat → Heap → Prop) (Mid : Nat → Addr → Heap → Prop) : Prop where
  walks : WalksU c.prog c.w c.A I fp wr ds.length Pt St Mid
  st : St 0 s₂.heap
  fpOk : ∀ b ∈ fp, b ∈ wr ∨ (∃ o, s₂.heap.get? b = some o ∧ Obj.isSeq o = true ∧ ¬ c.H b ∧ ν b = none) ∨ ∃ o, c.hL.get? b = some o ∧ b ∉ tabs ∧ Obj.isFields o = true
  wrOk : ∀ b ∈ wr, c.s₀.heap.get? b = none ∧ c.hL.get? b = none ∧ c.g b = none ∧ ¬ c.H b ∧ b ∉ tabs
  fields : ∀ i h, St i h → ∀ b ∈ wr, ∃ o, h.get? b = some o ∧ Obj.isFields o = true
  fieldsM : ∀ i T h, Mid i T h → ∀ b ∈ wr, ∃ o, h.get? b = some o ∧ Obj.isFields o = true
  vals : ∀ i vs d, Pt i vs → ds[i]? = some d → ∃ v1 v2, vs = #[v1, v2] ∧ Rep (mask c.H ν s₂.heap) d.1 v1 ∧ Rep (mask c.H ν s₂.heap) d.2 v2

def BetweenU (c : Cx) (g : View) (J : Nat → Vars → Muts → Prop) (N : Nat) (St : Nat → Heap → Prop) (n : Nat) (s' : Shared) : Prop :=
  ∃ i μ' ν', i ≤ N ∧ n = N + 1 - i ∧ St i s'.heap ∧ J i μ' ν' ∧ FD { c with g := g } μ' ν' s'

theorem IterU.turn {s₂ : Shared} {I : Addr} {ds : List (D × D)} {fp wr : List Addr} {Pt : Nat → Array Value → Prop} {St : Nat → Heap → Prop} {Mid : Nat → Addr → Heap → Prop} {J : Nat → Vars → Muts → Prop} {x y : Str} {px py tpos : Pos} {k : Nat}
    (F : c.F μ ν s₂) (K : IterU c ν s₂ I ds fp wr Pt St Mid) (hh : c.A.handled = none) (hx : Own c x) (hy : Own c y) {E : Value → Shared → Prop} (n : Nat) (s' : Shared)
    (h : BetweenU c (freeze c ν s₂.heap) J ds.length St n s') : wpAny c.M c.A (pyNext (.ref I)) (fun r s₁ => match r with
      | none => ∃ μ' ν', J ds.length μ' ν' ∧ c.F μ' ν' s₁
      | some v => wpAny c.M c.A (letOwnedTupleGo (.Tuple [.Name x px, .Name y py] k tpos) (.ref I) v) (fun _ s₁' => wpAny c.M c.A (assign (.Tuple [.Name x px, .Name y py] k tpos) c.env v) (fun _ s₃ =>
          ∃ i d μ' ν' g, ds[i]? = some d ∧ J i μ' ν' ∧ FD { c with g := g } (upd (upd μ' x d.1) y d.2) ν' s₃ ∧ (∀ b o, c.g b = some o → g b = some o) ∧
          (∀ μ'' ν'' s₆, J (i + 1) μ'' ν'' → FD { c with g := g } μ'' ν'' s₆ → ∃ m, m < n ∧ BetweenU c (freeze c ν s₂.heap) J ds.length St m s₆)) E s₁') E s₁) E s' := by
  let c' : Cx := { c with g := freeze c ν s₂.heap }
  have gOk : ∀ b o, c.g b = some o → s₂.heap.get? b = some o := fun b o e => (F.froz b o e).1
  have hgw : ∀ b ∈ wr, c'.g b = none := fun b hb => by
    cases q : c'.g b with
    | none => rfl
    | some o =>
      rcases freeze_cases q with r | ⟨_, r, hs'⟩
      · rw [(K.wrOk b hb).2.2.1] at r; cases r
      · obtain ⟨o', ho', hf⟩ := K.fields 0 _ K.st b hb
        rw [(mask_some.mp r).2.2] at ho'; cases ho'
        exact (seq_not_fields hs' hf).elim
  have hfw : ∀ b ∈ wr, c'.s₀.heap.get? b = none ∧ c'.hL.get? b = none ∧ c'.g b = none := fun b hb => ⟨(K.wrOk b hb).1, (K.wrOk b hb).2.1, hgw b hb⟩
  obtain ⟨i, μ', ν', hile, rfl, hst', hJ, G'⟩ := h
  have G' : c'.F μ' ν' s' := G'
  by_cases hlt : i < ds.length
  · refine K.walks.item i s' _ _ hlt hst' fun T vals h₁ tk₁ hPv hT hm hk₁ => ?_
    have G1 : c'.F μ' ν' { s' with heap := h₁, toks := tk₁ } := G'.iter hk₁ hfw (K.fields i _ hst') (K.fieldsM i T _ hm)
    have hd : ds[i]? = some ds[i] := List.getElem?_eq_getElem hlt
    generalize ds[i] = d at hd
    obtain ⟨v1, v2, rfl, hv1, hv2⟩ := K.vals i vals d hPv hd
    refine K.walks.go _ _ _ i T _ _ _ hm fun h₂ hst₂ hk₂ => ?_
    have G2 : c'.F μ' ν' { s' with heap := h₂, toks := tk₁ } := G1.iter hk₂ hfw (K.fieldsM i T _ hm) (K.fields (i + 1) _ hst₂)
    have hT₂ : h₂.IsTuple T #[v1, v2] := let ⟨o, ho, r⟩ := hT; ⟨o, hk₂ T o (K.walks.apart i T h₁ hm) ho, r⟩
    have low2 : ∀ b o, mask c.H ν s₂.heap b = some o → Obj.isSeq o = true → c'.g b = some o := fun b o e q => freeze_mask (gOk b) e q
    have le₂ : SeqLe (mask c.H ν s₂.heap) (mask c.H ν' h₂) := by
      intro b o e q
      have hg : c'.g b = some o := low2 b o e q
      have hν' : ν' b = none := by
        cases r : ν' b with
        | none => rfl
        | some l => have := G'.frozM b l r; rw [hg] at this; cases this
      exact mask_some.mpr ⟨(mask_some.mp e).1, hν', (G2.froz b o hg).1⟩
    let g'' : View := pin c'.g wr h₂
    have G2' : FD { c with g := g'' } μ' ν' { s' with heap := h₂, toks := tk₁ } := FD.setG (c := c') G2 g'' (fun b o e => by
        by_cases hb : b ∈ wr
        · obtain ⟨o', ho', hf⟩ := K.fields (i + 1) _ hst₂ b hb
          have e' : h₂.get? b = some o := by simpa [g'', pin, hb] using e
          rw [ho'] at e'; cases e'
          exact ⟨ho', Or.inr hf⟩
        · exact G2.froz b o (by simpa [g'', pin, hb] using e)) (fun b l e => by
        by_cases hb : b ∈ wr
        · obtain ⟨o', ho', hf⟩ := K.fields (i + 1) _ hst₂ b hb
          obtain ⟨_, vs, ⟨n, hp⟩, _⟩ := G2.muts b l e
          have hp' : h₂.get? b = _ := hp
          rw [ho'] at hp'; cases hp'
          simp [Obj.isFields] at hf
        · show pin c'.g wr h₂ b = none
          simp only [pin, hb, if_false]; exact G2.frozM b l e)
    have low : ∀ b o, c'.g b = some o → g'' b = some o := fun b o e => by
      have hb : b ∉ wr := fun q => by rw [hgw b q] at e; cases e
      show pin c'.g wr h₂ b = some o
      simp only [pin, hb, if_false]; exact e
    refine wpAny_assign_Tuple hh hT₂ rfl rfl fun h₃ hx₃ => ?_
    have kp : Kp { s' with heap := h₂, toks := tk₁ } { s' with heap := h₃, toks := tk₁ } := ⟨h₃, tk₁, rfl, fun b o e => hx₃ b o (Nat.ne_of_lt (Heap.lt_size e)) e⟩
    have G3 := G2'.keeps kp
    show wpAny _ c.A (do holding [v2] (assign (.Name x px) c.env v1); do holding [] (assign (.Name y py) c.env v2); pure ()) _ _ _
    refine wpAny_bind (wpAny_holding (wpAny_assign_Name (FD.store (c := { c with g := g'' }) (d := d.1) G3 hx ((Rep.mono le₂ _ _ hv1).keeps kp) fun s₄ G4 st4 => ?_)))
    have r4 : Rep (mask c.H ν' s₄.heap) d.2 v2 := Rep.mono (mask_le fun b o _ hs e => st4.data b o e (Or.inl hs)) _ _ ((Rep.mono le₂ _ _ hv2).keeps kp)
    refine wpAny_bind (wpAny_holding (wpAny_assign_Name (FD.store (c := { c with g := g'' }) (d := d.2) G4 hy r4 fun s₅ G5 st5 => ?_)))
    refine wpAny_pure ⟨i, d, μ', ν', g'', hd, hJ, G5, fun b o e => low b o ?_, fun μ'' ν'' s₆ hJ' G6 => ?_⟩
    · show Mine.freeze c ν s₂.heap b = some o
      unfold Mine.freeze; rw [e]
    · have G7 : c'.F μ'' ν'' s₆ := FD.lessG (c := c') G6 low
      refine ⟨ds.length + 1 - (i + 1), by omega, i + 1, μ'', ν'', hlt, rfl, K.walks.frame _ _ _ hst₂ fun b hb o e => ?_, hJ', G7⟩
      by_cases q : b ∈ wr
      · exact (G6.froz b o (by show pin c'.g wr h₂ b = some o; simp only [pin, q, if_true]; exact e)).1
      · rcases K.fpOk b hb with r | ⟨o', ho', hs', hH, hν⟩ | ⟨o', ho', ht', hf'⟩
        · exact absurd r q
        · have hg : c'.g b = some o' := freeze_mask (gOk b) (mask_some.mpr ⟨hH, hν, ho'⟩) hs'
          have e2 : h₂.get? b = some o' := (G2.froz b o' hg).1
          rw [e2] at e; cases e
          exact (G7.froz b _ hg).1
        · have e2 : h₂.get? b = some o' := G2.lib.get b o' ht' ho'
          rw [e2] at e; cases e
          exact G7.lib.get b _ ht' ho'
  · have hi : i = ds.length := by omega
    subst hi
    refine K.walks.done s' _ _ hst' fun h₁ tk₁ hk₁ => ⟨μ', ν', hJ, ?_⟩
    have G1 : c'.F μ' ν' { s' with heap := h₁, toks := tk₁ } := G'.step hk₁ fun b hb => by
      obtain ⟨o, ho, hf⟩ := K.fields _ _ hst' b hb
      exact ⟨(K.wrOk b hb).1, (K.wrOk b hb).2.1, Or.inr (K.wrOk b hb).2.2.2, o, ho, Or.inl ⟨hf, hgw b hb⟩⟩
    exact FD.lessG (c := c) G1 fun b o e => by
      show Mine.freeze c ν s₂.heap b = some o
      unfold Mine.freeze; rw [e]

/-- for x, y in e -/
theorem FD.forPairs {x y : Str} {px py tpos pos : Pos} {k : Nat} {iter : Expr} {body orelse rest : List Stmt} {ds : List (D × D)} {P : Flow → Shared → Prop} {E : Value → Shared → Prop} (J : Nat → Vars → Muts → Prop) (B : Vars → Muts → Prop) {s : Shared} (_F : c.F μ ν s)
    (hi : ∀ E, wpAny c.M c.A (eval iter c.env) (fun xv s₁ => wpAny c.M c.A (pyIter xv) (fun it s₂ => ∃ I fp wr Pt St Mid, it = .ref I ∧ c.F μ ν s₂ ∧ IterU c ν s₂ I ds fp wr Pt St Mid) E s₁) E s) (hh : c.A.handled = none) (hx : Own c x) (hy : Own c y) (h0 : J 0 μ ν)
    (turn : ∀ g i d μ' ν', ds[i]? = some d → J i μ' ν' → Ex { c with g := g } (upd (upd μ' x d.1) y d.2) ν' body (LoopP { c with g := g } (J (i + 1)) B P) (fun _ _ => False))
    (brk : ∀ μ' ν', B μ' ν' → Ex c μ' ν' rest P E)
    (fin : ∀ μ' ν', J ds.length μ' ν' → Ex c μ' ν' orelse (thenP c rest P E) (fun _ _ => False))
    (hs : ∀ v, foldedSetIterable iter c.env v = pure v := by intro _; rfl) :
    wpAny c.M c.A (exec (.For (.Tuple [.Name x px, .Name y py] k tpos) iter body orelse pos) c.env) (thenP c rest P E) E s := by
  refine wpAny_For ?_ hs
  refine wpAny_mono (hi E) (fun xv s₁ h₁ => wpAny_mono h₁ (fun it s₂ h₂ => ?_) fun _ _ e => e) fun _ _ e => e
  obtain ⟨I, fp, wr, Pt, St, Mid, rfl, F₂, K⟩ := h₂
  refine codeAny_forLoop_any (BetweenU c (Mine.freeze c ν s₂.heap) J ds.length St) ?_ (ds.length + 1) ⟨0, μ, ν, Nat.zero_le _, rfl, K.st, h0, F₂.freeze⟩
  intro n s' hb
  refine wpAny_mono (K.turn (px := px) (py := py) (tpos := tpos) (k := k) F₂ hh hx hy (E := fun _ _ => False) n s' hb) (fun r s₃ h₃ => ?_) fun _ _ e => e.elim
  cases r with
  | none =>
    obtain ⟨μ', ν', hJ, F'⟩ := h₃
    exact wpAny_mono (fin μ' ν' hJ _ F') (fun f s₄ h => h) fun _ _ e => e.elim
  | some v =>
    refine wpAny_mono h₃ (fun _ s₄ h₄ => wpAny_mono h₄ (fun _ s₅ h₅ => ?_) fun _ _ e => e.elim) fun _ _ e => e.elim
    obtain ⟨i, d, μ', ν', g, hd, hJ, G, low, next⟩ := h₅
    refine wpAny_mono (turn g i d μ' ν' hd hJ s₅ G) (fun f s₆ h₆ => ?_) fun _ _ e => e.elim
    cases f with
    | next => obtain ⟨μ'', ν'', hJ', G6⟩ := h₆; exact next _ _ _ hJ' G6
    | cont => obtain ⟨μ'', ν'', hJ', G6⟩ := h₆; exact next _ _ _ hJ' G6
    | brk =>
      obtain ⟨μ'', ν'', hB, G6⟩ := h₆
      exact brk μ'' ν'' hB _ (FD.lessG (c := c) G6 low)
    | ret v => exact h₆
end Mine
end
section
open PySem PySem.W PyProof.Rows
set_option autoImplicit false
set_option maxRecDepth 100000
namespace Mine

mutual
/-- data read from a fragment -/
def repB (K : Addr → Option Obj) : D → Value → Bool
  | .int i, v => (match v with | .int j _ => i == j | _ => false)
  | .str x, v => (match v with | .str y _ => x == y | _ => false)
  | .tup ds, v => (match v with
    | .ref a => (match K a with
      | some o => (match o.cls, o.dict, o.data with
        | .type t, none, .seq vs _ => t == "tuple" && repsB K ds vs.toList
        | _, _, _ => false)
      | none => false)
    | _ => false)
  | _, _ => false
def repsB (K : Addr → Option Obj) : List D → List Value → Bool
  | [], vs => vs.isEmpty
  | d :: ds, vs => (match vs with | v :: r => repB K d v && repsB K ds r | [] => false)
end

mutual
theorem Rep.ofB {K : Addr → Option Obj} : ∀ (d : D) (v : Value), repB K d v = true → Rep K d v
  | .int i, v, h => by
    unfold repB at h
    split at h
    · simp only [Rep]; exact ⟨_, by rw [eq_of_beq h]⟩
    · cases h
  | .str x, v, h => by
    unfold repB at h
    split at h
    · simp only [Rep]; exact ⟨_, by rw [eq_of_beq h]⟩
    · cases h
  | .tup ds, v, h => by
    unfold repB at h
    split at h
    · rename_i a
      split at h
      · rename_i o ho
        split at h
        · rename_i t vs n h1 h2 h3
          rw [Bool.and_eq_true] at h
          simp only [Rep]
          exact ⟨a, vs, rfl, ⟨o, ho, by rw [h1, eq_of_beq h.1], h2, n, h3⟩, Reps.ofB ds _ h.2⟩
        · cases h
      · cases h
    · cases h
  | .none, _, h => by simp [repB] at h
  | .bool _, _, h => by simp [repB] at h
  | .bytes _, _, h => by simp [repB] at h
  | .list _, _, h => by simp [repB] at h
  | .val _, _, h => by simp [repB] at h
theorem Reps.ofB {K : Addr → Option Obj} : ∀ (ds : List D) (vs : List Value), repsB K ds vs = true → Reps K ds vs
  | [], vs, h => by
    unfold repsB at h
    simp only [Reps]
    simpa using h
  | d :: ds, vs, h => by
    unfold repsB at h
    split at h
    · rw [Bool.and_eq_true] at h
      simp only [Reps]
      exact ⟨_, _, rfl, Rep.ofB d _ h.1, Reps.ofB ds _ h.2⟩
    · cases h
end

variable {P : Params} {prog : Program} {w : World} {hL : Heap}
/-- data of the text -/
theorem HL.rep (h : HL P hL) {d : D} {v : Value} (e : repB (fun a => if a ∈ tabs then none else (Mine.hd.heap_39 P).lookup a) d v = true) : Rep (libView hL) d v :=
  Rep.mono (fun b o q _ => by
    unfold libView
    split at q
    · cases q
    · rename_i hb
      rw [if_neg hb]
      exact h.K b o hb q) _ _ (Rep.ofB d v e)

abbrev pairD (q : Nat × Nat) : D := .tup [nt q.1, sg [q.2]]
abbrev rowD (t : List (Nat × Nat)) : D := .tup (t.map pairD)
def ftable : List (List (Nat × Nat)) := [[(40960, 108), (49152, 115), (32768, 45), (24576, 98), (16384, 100), (8192, 99), (4096, 112)], [(256, 114)], [(128, 119)], [(2112, 115), (2048, 83), (64, 120)],
  [(32, 114)], [(16, 119)], [(1032, 115), (1024, 83), (8, 120)], [(4, 114)], [(2, 119)], [(513, 116), (512, 84), (1, 120)]]

theorem table_rep (h : HL P hL) : Rep (libView hL) (.tup (ftable.map rowD)) (.ref 89) := h.rep (by kernel_rfl)

section
variable {c : Cx} {μ : Vars} {ν : Muts} {P : Flow → Shared → Prop} {E : Value → Shared → Prop} {rest : List Stmt}
/-- xs.append(e), as a statement -/
theorem Ex.append {o e : Expr} {apos pos spos : Pos} {a : Addr} {l : List D} {d : D} (ho : Ev c μ ν o (.val (.ref a))) (hν : ν a = some l) (own : ∀ s, c.F μ ν s → c.X a ∨ c.s₀.heap.get? a = none) (he : Ev c μ ν e d) (hsz : l.length < 16777216)
    (hr : Ex c μ (updM ν a (l ++ [d])) rest P E) (hi : interactive c.env = false := by rfl) (hs : swapsWith (.Call (.Attribute o "append" apos) [e] [] pos) none spos.line c.env = pure false := by rfl)
    (hbase : attributeBase o "append" c.env (eval o c.env) = eval o c.env := by rfl) (hline : (apos.endLine == pos.line) = true := by rfl)
    (htrees : backTo pos (starEach [e] c.env) = [(false, eval e c.env)] := by rfl) : Ex c μ ν (.Expr (.Call (.Attribute o "append" apos) [e] [] pos) spos :: rest) P E := by
  refine Ex.cons fun s F => wpAny_Expr ?_ hi hs
  refine wpAny_Call_method1_late hbase hline htrees (wpAny_mono (ho s E F) (fun v s₁ h₁ => ?_) fun _ _ e => e)
  have F1 := F.keeps h₁.1
  have hv := h₁.2
  simp only [Rep] at hv
  subst hv
  obtain ⟨_, vs, hp, _⟩ := F1.muts a l hν
  obtain ⟨n, hp'⟩ := id hp
  refine ⟨"list", "list.append", PySem.F.plainAttrs_list, PySem.F.slot_list_append, PySem.F.type_list_append, hp.isList.typeIs, fun a e => by cases e; exact ⟨_, hp', rfl⟩, ?_⟩
  refine Calls.callWith_builtin rfl (Calls.evalArgs_plain (Calls.spliced_cons (wpAny_mono (he s₁ E F1) (fun y s₂ h₂ => Calls.spliced_nil ?_) fun _ _ e => e)))
  exact FD.append (F1.keeps h₂.1) hν (own _ F1) h₂.2 hsz fun s' F' => hr s' F'

theorem glued_signs : ∀ cs : List Nat, Builtin.Str.glued (Str.ofString "") (cs.map fun ch => (⟨#[ch]⟩ : Str)) = ⟨cs.toArray⟩
  | [] => rfl
  | ch :: cs => by
    have key : ∀ (r : List Nat) (acc : Array Nat), (r.map fun ch => (⟨#[ch]⟩ : Str)).foldl (fun acc p => acc ++ (Str.ofString "").cps ++ p.cps) acc = acc ++ r.toArray := by
      intro r
      induction r with
      | nil => intro acc; simp
      | cons x r ih =>
        intro acc
        rw [List.map_cons, List.foldl_cons, ih]
        have : (Str.ofString "").cps = #[] := rfl
        rw [this]
        apply Array.toList_inj.mp
        simp
    unfold Builtin.Str.glued
    simp only [List.map_cons, List.drop_succ_cons, List.drop_zero, List.headD_cons]
    rw [key]
    congr 1
    apply Array.toList_inj.mp
    simp

/-- ''.join(xs), xs a known list of signs -/
theorem Ev.joinSigns {o : Expr} {k : Nat} {apos pos cp : Pos} {a : Addr} {cs : List Nat} (ho : Ev c μ ν o (.val (.ref a))) (hν : ν a = some (cs.map fun ch => sg [ch])) (hsz : cs.length < 16777216)
    (hbase : attributeBase (.Constant (.str "") k cp) "join" c.env (eval (.Constant (.str "") k cp) c.env) = eval (.Constant (.str "") k cp) c.env := by rfl) (hline : (apos.endLine == pos.line) = true := by rfl)
    (htrees : backTo pos (starEach [o] c.env) = [(false, eval o c.env)] := by rfl) : Ev c μ ν (.Call (.Attribute (.Constant (.str "") k cp) "join" apos) [o] [] pos) (sg cs) := by
  intro s E F
  refine wpAny_Call_method1_late hbase hline htrees (wpAny_mono (Ev.str (c := c) (μ := μ) (ν := ν) s E F) (fun v s₁ h₁ => ?_) fun _ _ e => e)
  have F1 := F.keeps h₁.1
  have hv := h₁.2
  simp only [Rep] at hv
  obtain ⟨t, rfl⟩ := hv
  refine ⟨"str", "str.join", PySem.F.plainAttrs_str, PySem.F.slot_str_join, PySem.F.type_str_join, typeIs_str _ _ _, fun a e => (by cases e), ?_⟩
  refine Calls.callWith_builtin rfl (Calls.evalArgs_plain (Calls.spliced_cons (wpAny_mono (ho s₁ E F1) (fun y s₂ h₂ => Calls.spliced_nil ?_) fun _ _ e => e)))
  have hy := h₂.2
  simp only [Rep] at hy
  subst hy
  have F2 := F1.keeps h₂.1
  obtain ⟨_, vs, hp, hr⟩ := F2.muts a _ hν
  have sgs : ∀ (cs : List Nat) (vs : List Value), Reps (mask c.H ν s₂.heap) (cs.map fun ch => sg [ch]) vs → ∃ l : List (Str × Tok), vs = strValues l ∧ l.map (·.1) = cs.map fun ch => (⟨#[ch]⟩ : Str) := by
    intro cs
    induction cs with
    | nil => intro vs r; simp only [List.map_nil, Reps] at r; subst r; exact ⟨[], rfl, rfl⟩
    | cons ch cs ih =>
      intro vs r
      simp only [List.map_cons, Reps, Rep] at r
      obtain ⟨v, r', rfl, ⟨t, rfl⟩, hr⟩ := r
      obtain ⟨l, rfl, e2⟩ := ih _ hr
      exact ⟨(_, t) :: l, rfl, by simp [e2]⟩
  obtain ⟨l, e1, e2⟩ := sgs cs _ hr
  have texts : ∀ y ∈ l.map (·.1), y.length ≤ 1 := by
    rw [e2]
    intro y hy
    obtain ⟨ch, _, rfl⟩ := List.mem_map.mp hy
    simp [Str.length]
  have len : l.length = cs.length := by have := congrArg List.length e2; simpa using this
  have hl : Builtin.Str.tooLong ((l.map (·.1)).toArray.foldl (· + ·.length + (Str.ofString "").length) 0) = false := by
    refine StrLaws.joinFits texts ?_
    have : (Str.ofString "").length = 0 := rfl
    rw [this]
    simp only [List.length_map]
    omega
  refine call_meets PySem.F.slot_str_join (typeIs_str _ _ _) PySem.F.entry_str_join (PySem.F.args_str_join_2 _ _) (meets_str_join_list _ t a l hl) ⟨by have := hp.isList; rw [← e1]; simpa using this, ?_⟩
  have g : Builtin.Str.glued (Str.ofString "") (l.map (·.1)) = ⟨cs.toArray⟩ := by
    rw [e2]; exact glued_signs cs
  match l, e2, len, g with
  | [], _, hl0, g =>
    refine ⟨?_, (h₁.1.trans h₂.1).trans (Kp.tok _ _), ?_⟩
    · rw [g]; simp [Str.length, sizeLine_eq]; omega
    · simp only [Rep]; exact ⟨_, by rw [g]⟩
  | [p], e2, hl0, g =>
    refine ⟨h₁.1.trans h₂.1, ?_⟩
    simp only [Rep]
    obtain ⟨ch, rfl⟩ : ∃ ch, cs = [ch] := by
      match cs, hl0 with
      | [ch], _ => exact ⟨ch, rfl⟩
    simp only [List.map_cons, List.map_nil, List.cons.injEq, and_true] at e2
    exact ⟨p.2, by rw [e2]⟩
  | p :: q :: r, _, hl0, g =>
    refine ⟨?_, (h₁.1.trans h₂.1).trans (Kp.tok _ _), ?_⟩
    · rw [g]; simp [Str.length, sizeLine_eq]; omega
    · simp only [Rep]; exact ⟨_, by rw [g]⟩
end
end Mine
end
section
open PySem PySem.W PyProof.Rows
set_option autoImplicit false
set_option maxRecDepth 100000
namespace Mine
section
variable {c : Cx} {μ : Vars} {ν : Muts}

theorem SeqOf.isTuple {g : View} {h : Heap} {a : Addr} {vs : Array Value} (x : SeqOf g "tuple" a vs) (le : ∀ b o, g b = some o → h.get? b = some o) : h.IsTuple a vs :=
  let ⟨o, ho, hc, _, n, hd⟩ := x; ⟨o, le a o ho, hc, n, hd⟩

theorem FD.freshWr {s : Shared} (F : c.F μ ν s) {b : Addr} (e : s.heap.get? b = none) : c.s₀.heap.get? b = none ∧ c.hL.get? b = none ∧ c.g b = none ∧ ¬ c.H b ∧ b ∉ tabs := by
  refine ⟨?_, F.lib.fresh e, F.g_none e, fun q => ?_, fun q => ?_⟩
  · cases q : c.s₀.heap.get? b with
    | none => rfl
    | some o => have := F.live b o q; rw [e] at this; cases this
  · have := F.hid b q; rw [e] at this; cases this
  · have := F.lib.tab b q; rw [e] at this; cases this

theorem pairs_iter {s : Shared} {v : Value} {t : List (Nat × Nat)} (F : c.F μ ν s) (hh : c.A.handled = none) (hr : Rep (mask c.H ν s.heap) (rowD t) v) (E : Value → Shared → Prop) :
    wpAny c.M c.A (pyIter v) (fun it s₂ => ∃ I fp wr Pt St Mid, it = .ref I ∧ c.F μ ν s₂ ∧ IterU c ν s₂ I (t.map fun q => (nt q.1, sg [q.2])) fp wr Pt St Mid) E s := by
  simp only [Rep] at hr
  obtain ⟨a, vs, rfl, hseq, hreps⟩ := hr
  have hlen : vs.size = t.length := by have := hreps.length; simpa using this
  have H : ∀ j, ∃ p : Addr × Array Value, j < vs.size → vs[j]? = some (.ref p.1) ∧ SeqOf (mask c.H ν s.heap) "tuple" p.1 p.2 ∧ ∃ q, t[j]? = some q ∧ Reps (mask c.H ν s.heap) [nt q.1, sg [q.2]] p.2.toList := by
    intro j
    by_cases hj : j < vs.size
    · have hq : t[j]? = some t[j] := List.getElem?_eq_getElem (by omega)
      have hd : (t.map pairD)[j]? = some (pairD t[j]) := by rw [List.getElem?_map, hq]; rfl
      obtain ⟨u, hu, hr⟩ := hreps.get hd
      simp only [Rep] at hr
      obtain ⟨T, us, rfl, hs, hr⟩ := hr
      exact ⟨(T, us), fun _ => ⟨by simpa using hu, hs, _, hq, hr⟩⟩
    · exact ⟨(0, #[]), fun h => absurd h hj⟩
  obtain ⟨f, hf⟩ := Classical.axiomOfChoice H
  refine wpAny_pyIter_tuple (hseq.isTuple mask_get) ?_
  have fI : s.heap.get? s.heap.objs.size = none := fresh_size (Nat.le_refl _)
  have kp : Kp s { s with heap := s.heap.push { cls := .type "tuple_iterator", data := .fields #[.ref a, .int 0 0] } } := kp_push
  have ltA : ∀ {b : Addr} {us : Array Value}, SeqOf (mask c.H ν s.heap) "tuple" b us → b ≠ s.heap.objs.size := fun {b us} x => by
    obtain ⟨o, ho, _⟩ := x
    exact Nat.ne_of_lt (Heap.lt_size (mask_get _ _ ho))
  have seqOk : ∀ {b : Addr} {us : Array Value}, SeqOf (mask c.H ν s.heap) "tuple" b us → ∃ o, (s.heap.push { cls := .type "tuple_iterator", data := .fields #[.ref a, .int 0 0] }).get? b = some o ∧ Obj.isSeq o = true ∧ ¬ c.H b ∧ ν b = none := fun {b us} x => by
    obtain ⟨o, ho, hc, _, n, hd⟩ := x
    obtain ⟨q1, q2, q3⟩ := mask_some.mp ho
    exact ⟨o, Heap.get?_push_of_some _ q3, by simp [Obj.isSeq, hd], q1, q2⟩
  refine ⟨s.heap.objs.size, s.heap.objs.size :: a :: (List.range vs.size).map (fun j => (f j).1), [s.heap.objs.size], fun j v => v = (f j).2, fun j h => h.IsTupleIter s.heap.objs.size a j ∧ h.IsTuple a vs ∧ ∀ k, k < vs.size → h.IsTuple (f k).1 (f k).2,
    fun j T h => (j < vs.size ∧ T = (f j).1) ∧ h.IsTupleIter s.heap.objs.size a (j + 1) ∧ h.IsTuple a vs ∧ ∀ k, k < vs.size → h.IsTuple (f k).1 (f k).2, rfl, F.keeps kp, ?_⟩
  exact {
    walks := by
      have := walks_pairs (prog := c.prog) (w := c.w) hh s.heap.objs.size a (ltA hseq) vs (fun j => (f j).1) (fun j => (f j).2) (fun j hj => (hf j hj).1) (fun j hj => ltA (hf j hj).2.1)
      have e : (t.map fun q => (nt q.1, sg [q.2])).length = vs.size := by simp [hlen]
      rw [e]; exact this
    st := ⟨⟨_, Heap.get?_push_size _ rfl, rfl, rfl⟩, (hseq.isTuple mask_get).push _, fun k hk => ((hf k hk).2.1.isTuple mask_get).push _⟩
    fpOk := fun b hb => by
      rcases List.mem_cons.mp hb with rfl | hb
      · exact Or.inl (by simp)
      · rcases List.mem_cons.mp hb with rfl | hb
        · exact Or.inr (Or.inl (seqOk hseq))
        · obtain ⟨j, hj, rfl⟩ := List.mem_map.mp hb
          exact Or.inr (Or.inl (seqOk (hf j (List.mem_range.mp hj)).2.1))
    wrOk := fun b hb => by
      simp only [List.mem_cons, List.not_mem_nil, or_false] at hb
      subst hb
      exact F.freshWr fI
    fields := fun i h st b hb => by
      simp only [List.mem_cons, List.not_mem_nil, or_false] at hb
      subst hb
      obtain ⟨⟨o, ho, _, hd⟩, _⟩ := st
      exact ⟨o, ho, by simp [Obj.isFields, hd]⟩
    fieldsM := fun i T h st b hb => by
      simp only [List.mem_cons, List.not_mem_nil, or_false] at hb
      subst hb
      obtain ⟨_, ⟨o, ho, _, hd⟩, _⟩ := st
      exact ⟨o, ho, by simp [Obj.isFields, hd]⟩
    vals := fun i us d hv hd => by
      subst hv
      rw [List.getElem?_map] at hd
      cases q : t[i]? with
      | none => rw [q] at hd; cases hd
      | some p =>
        rw [q] at hd; cases hd
        have hi : i < vs.size := by rw [hlen]; exact (List.getElem?_eq_some_iff.mp q).1
        obtain ⟨_, _, p', hp', hr⟩ := hf i hi
        rw [q] at hp'; cases hp'
        simp only [Reps] at hr
        obtain ⟨v1, r, e1, h1, v2, r2, rfl, h2, rfl⟩ := hr
        refine ⟨v1, v2, Array.toList_inj.mp (by simpa using e1), h1.keeps kp, h2.keeps kp⟩ }

theorem enum_iter {s : Shared} {v : Value} {ds : List D} (F : c.F μ ν s) (hh : c.A.handled = none) (hr : Rep (mask c.H ν s.heap) (.tup ds) v) (E : Value → Shared → Prop) :
    wpAny c.M c.A (call (.type "enumerate") [v]) (fun ev s₁ => wpAny c.M c.A (pyIter ev) (fun it s₂ => ∃ I fp wr Pt St Mid, it = .ref I ∧ c.F μ ν s₂ ∧ IterU c ν s₂ I (ds.zipIdx.map fun p => (nt p.2, p.1)) fp wr Pt St Mid) E s₁) E s := by
  simp only [Rep] at hr
  obtain ⟨a, vs, rfl, hseq, hreps⟩ := hr
  have hlen : vs.size = ds.length := by have := hreps.length; simpa using this
  refine call_enum_tuple (hseq.isTuple mask_get) fun h' he hit hk => ?_
  refine wpAny_pyIter_enum (s := { s with heap := h' }) (i := 0) he ?_
  have kp : Kp s { s with heap := h' } := ⟨h', s.toks, rfl, hk⟩
  obtain ⟨ob, ho, hc, _, n, hd⟩ := id hseq
  obtain ⟨q1, q2, q3⟩ := mask_some.mp ho
  have hlt := Heap.lt_size q3
  have tupK : ∀ (items : Array Value), s.heap.IsTuple a items → h'.IsTuple a items := fun items ⟨o, h1, r⟩ => ⟨o, hk a o h1, r⟩
  refine ⟨s.heap.objs.size + 1, [s.heap.objs.size + 1, s.heap.objs.size, a], [s.heap.objs.size + 1, s.heap.objs.size], fun i vals => ∃ t x, vs[i]? = some x ∧ vals = #[.int i t, x], fun i h => (∃ old, IsEnum h (s.heap.objs.size + 1) s.heap.objs.size i old) ∧ h.IsTupleIter s.heap.objs.size a i ∧ h.IsTuple a vs,
    fun i T h => (∃ x, IsEnumOut h (s.heap.objs.size + 1) s.heap.objs.size ((i : Int) + 1) x T) ∧ h.IsTupleIter s.heap.objs.size a (i + 1) ∧ h.IsTuple a vs ∧ T ≠ s.heap.objs.size + 1 ∧ T ≠ s.heap.objs.size, rfl, F.keeps kp, ?_⟩
  exact {
    walks := by
      have := walks_enum_tuple (prog := c.prog) (w := c.w) hh (s.heap.objs.size + 1) s.heap.objs.size a (Nat.succ_ne_self _) (Nat.ne_of_lt (Nat.lt_succ_of_lt hlt)) (Nat.ne_of_lt hlt) vs
      have e : (ds.zipIdx.map fun p => (nt p.2, p.1)).length = vs.size := by simp [hlen]
      rw [e]; exact this
    st := ⟨⟨_, he⟩, hit, tupK _ (hseq.isTuple mask_get)⟩
    fpOk := fun b hb => by
      simp only [List.mem_cons, List.not_mem_nil, or_false] at hb
      rcases hb with rfl | rfl | rfl
      · exact Or.inl (by simp)
      · exact Or.inl (by simp)
      · exact Or.inr (Or.inl ⟨ob, hk _ _ q3, by simp [Obj.isSeq, hd], q1, q2⟩)
    wrOk := fun b hb => by
      simp only [List.mem_cons, List.not_mem_nil, or_false] at hb
      rcases hb with rfl | rfl
      · exact F.freshWr (fresh_size (Nat.le_succ _))
      · exact F.freshWr (fresh_size (Nat.le_refl _))
    fields := fun i h st b hb => by
      simp only [List.mem_cons, List.not_mem_nil, or_false] at hb
      obtain ⟨⟨old, h1⟩, ⟨o, h2, _, h3⟩, _⟩ := st
      rcases hb with rfl | rfl
      · exact ⟨_, h1, rfl⟩
      · exact ⟨o, h2, by simp [Obj.isFields, h3]⟩
    fieldsM := fun i T h st b hb => by
      simp only [List.mem_cons, List.not_mem_nil, or_false] at hb
      obtain ⟨⟨old, h1⟩, ⟨o, h2, _, h3⟩, _⟩ := st
      rcases hb with rfl | rfl
      · exact ⟨_, h1, rfl⟩
      · exact ⟨o, h2, by simp [Obj.isFields, h3]⟩
    vals := fun i us d hv hd => by
      obtain ⟨t, x, hx, rfl⟩ := hv
      rw [List.getElem?_map] at hd
      cases q : ds.zipIdx[i]? with
      | none => rw [q] at hd; cases hd
      | some p =>
        rw [q] at hd; cases hd
        rw [List.getElem?_zipIdx] at q
        cases r : ds[i]? with
        | none => rw [r] at q; cases q
        | some d' =>
          rw [r] at q
          simp only [Option.map_some, Option.some.injEq] at q
          subst q
          obtain ⟨u, hu, hr⟩ := hreps.get r
          have : vs[i]? = some u := by simpa using hu
          rw [this] at hx; cases hx
          exact ⟨_, _, rfl, by simp only [Rep]; exact ⟨t, by simp⟩, hr.keeps kp⟩ }
end
end Mine
end
section
open PySem PySem.W PyProof.Rows
set_option autoImplicit false
set_option maxRecDepth 100000
namespace Mine

def hitF (i n b : Nat) : Bool := if i = 0 then decide (n / 4096 % 16 * 4096 = b) else decide (n &&& b = b)
def signF (n : Nat) (p : List (Nat × Nat) × Nat) : Nat := match p.1.find? (fun q => hitF p.2 n q.1) with
  | some q => q.2
  | none => if p.2 = 0 then 63 else 45
def fmode (n : Nat) : List Nat := ftable.zipIdx.map (signF n)

section
variable {c : Cx} {μ : Vars} {ν : Muts}
theorem bitAnd_nat (a b : Nat) : Builtin.bitAnd (a : Int) (b : Int) = ((a &&& b : Nat) : Int) := by
  unfold Builtin.bitAnd
  have h1 : decide ((0 : Int) ≤ (a : Int)) = true := by simp
  have h2 : decide ((0 : Int) ≤ (b : Int)) = true := by simp
  rw [h1, h2]
  simp
theorem op_andN {a b : Nat} : Op2 c μ ν (binaryOp .BitAnd) (nt a) (nt b) (nt (a &&& b)) := by
  have := op_and (c := c) (μ := μ) (ν := ν) (a := (a : Int)) (b := (b : Int))
  rwa [bitAnd_nat] at this

/-- a call of a type, whatever it brings -/
theorem eval_callT {x : Str} {p pos : Pos} {T : String} {e : Expr} {es : List Expr} {ds : List D} {Q : Value → Shared → Prop} {E : Value → Shared → Prop} {s : Shared} (F : c.F μ ν s) (hf : Ev c μ ν (.Name x p) (.val (.type T))) (ha : EvL c μ ν pos (e :: es) ds)
    (hc : ∀ s₂ vs, Kp s s₂ → Reps (mask c.H ν s₂.heap) ds vs → wpAny c.M c.A (call (.type T) vs) Q E s₂)
    (he : starEach (e :: es) c.env = (false, eval e c.env) :: starEach es c.env := by rfl) (hp : (backTo pos (starEach es c.env)).any (·.1) = false := by rfl) :
    wpAny c.M c.A (eval (.Call (.Name x p) (e :: es) [] pos) c.env) Q E s := by
  refine wpAny_Call_NameR (wpAny_mono (hf s E F) (fun f s₁ h₁ => ?_) fun _ _ e => e)
  have hfe := h₁.2
  simp only [Rep] at hfe
  subst hfe
  have ha' := ha s₁ E (F.keeps h₁.1)
  rw [he] at ha' ⊢
  refine PyProof.Rows.callWith_type (show (false || (backTo pos (starEach es c.env)).any (·.1)) = false by rw [hp]; rfl) (Calls.evalArgs_plain (wpAny_mono ha' (fun vs s₂ h₂ => ?_) fun _ _ e => e))
  exact hc s₂ vs (h₁.1.trans h₂.1) h₂.2
end

theorem find_step {α : Type} (p : α → Bool) {l : List α} {i : Nat} {a : α} (h : l[i]? = some a) (h0 : (l.take i).find? p = none) :
    (p a = true → l.find? p = some a) ∧ (p a = false → (l.take (i + 1)).find? p = none) := by
  have e : l.take (i + 1) = l.take i ++ [a] := by rw [List.take_add_one, h]; rfl
  constructor
  · intro q
    have : l.take (i + 1) ++ l.drop (i + 1) = l := List.take_append_drop _ _
    rw [← this, e, List.append_assoc, List.find?_append, h0]
    simp [q]
  · intro q
    rw [e, List.find?_append, h0]
    simp [q]

variable {P : Params} {prog : Program} {w : World} {hL : Heap}
theorem filemode_at (h : HL P hL) : DefAt hL 96 (fdAt P 96) (bodyAt P 96) ["mode"] := def_at h 96 _ 95

set_option maxHeartbeats 1000000 in
theorem filemode_pure (h : HL P hL) (n : Nat) : Pure prog w hL 96 2 [nt n] (sg (fmode n)) := by
  obtain ⟨o56, ho56, hfd56⟩ := (ifmt_at h).obj
  refine pure_of (filemode_at h) rfl (fun vs hv => ?_) fun A s H room => ?_
  · obtain ⟨v, rfl⟩ := List.length_eq_one_iff.mp hv
    rfl
  refine Ex.assignM (EvNew.evM (EvNew.list (ds := []) EvL.nil)) (Or.inl (by kernel_rfl)) ?_
  rintro ν₁ d₁ ⟨a, -, rfl, rfl⟩
  let c : Cx := ⟨prog, w, A.deeper (callEnvC (fdAt P 96) s.heap.objs.size 96), hL, s, fun _ => False, H, noView, callEnvC (fdAt P 96) s.heap.objs.size 96, fun _ => true, fun b => (noMuts b).isSome = true⟩
  let sgn : List Nat → List D := fun l => l.map fun ch => sg [ch]
  have hh : c.A.handled = none := room.handled
  have own : ∀ (g : View) (l : List D) (μ : Vars) (s' : Shared), FD { c with g := g } μ (updM noMuts a l) s' → c.X a ∨ c.s₀.heap.get? a = none := fun g l μ s' F => Or.inr ((F.newM a (by unfold updM; simp)).resolve_left (by intro q; cases q))
  have ua : ∀ l l', updM (updM noMuts a l) a l' = updM noMuts a l' := fun l l' => by funext b; unfold updM; split <;> rfl
  refine Ex.cons fun s₁ F₁ => FD.forPairs (c := c) (ds := (ftable.map rowD).zipIdx.map fun p => (nt p.2, p.1))
    (fun i μ' ν' => μ' "mode" = some (nt n) ∧ μ' "perm" = some (.val (.ref a)) ∧ ν' = updM noMuts a (sgn ((ftable.zipIdx.take i).map (signF n)))) (fun _ _ => False) F₁ (fun E => ?_) hh (Or.inl (by kernel_rfl)) (Or.inl (by kernel_rfl)) ⟨rfl, rfl, rfl⟩ ?_ (fun _ _ e => e.elim) ?_
  · refine eval_callT (c := c) (T := "enumerate") (ds := [.val (.ref 89)]) F₁ (Ev.builtin (pcx_std h) (by kernel_rfl)) (EvL.cons (Ev.global (pcx_std h)) EvL.nil) fun s₂ vs k₂ r₂ => ?_
    obtain ⟨v, rfl, hv⟩ := r₂.one
    simp only [Rep] at hv
    subst hv
    have F₂ := F₁.keeps k₂
    exact enum_iter F₂ hh (Rep.mono F₂.libLe _ _ (table_rep h)) E
  · rintro g i d μ' ν' hd ⟨hm, hp, rfl⟩
    obtain ⟨t, ht, rfl⟩ : ∃ t, ftable.zipIdx[i]? = some (t, i) ∧ d = (nt i, rowD t) := by
      rw [List.getElem?_map, List.getElem?_zipIdx, List.getElem?_map] at hd
      rw [List.getElem?_zipIdx]
      cases q : ftable[i]? with
      | none => rw [q] at hd; cases hd
      | some t => rw [q] at hd; cases hd; exact ⟨t, by simp, by simp⟩
    have fin : (ftable.zipIdx.take i).map (signF n) ++ [signF n (t, i)] = (ftable.zipIdx.take (i + 1)).map (signF n) := by
      rw [List.take_add_one, ht, List.map_append]; rfl
    have fin' : sgn ((ftable.zipIdx.take i).map (signF n)) ++ [sg [signF n (t, i)]] = sgn ((ftable.zipIdx.take (i + 1)).map (signF n)) := by
      rw [← fin]; simp [sgn]
    have hlen : (sgn ((ftable.zipIdx.take i).map (signF n))).length < 16777216 := by
      have : ftable.zipIdx.length = 10 := by simp [ftable]
      simp only [sgn, List.length_map, List.length_take]
      omega
    have hT : ∀ pos, Ev { c with g := g } (upd (upd μ' "index" (nt i)) "table" (rowD t)) (updM noMuts a (sgn ((ftable.zipIdx.take i).map (signF n)))) (.Name "table" pos) (rowD t) := fun _ => Ev.name rfl
    refine Ex.cons fun s₂ F₂ => FD.forPairs (c := { c with g := g }) (ds := t.map fun q => (nt q.1, sg [q.2]))
      (fun j μ' ν' => μ' "mode" = some (nt n) ∧ μ' "perm" = some (.val (.ref a)) ∧ μ' "index" = some (nt i) ∧ ν' = updM noMuts a (sgn ((ftable.zipIdx.take i).map (signF n))) ∧ (t.take j).find? (fun q => hitF i n q.1) = none)
      (fun μ' ν' => μ' "mode" = some (nt n) ∧ μ' "perm" = some (.val (.ref a)) ∧ ν' = updM noMuts a (sgn ((ftable.zipIdx.take (i + 1)).map (signF n)))) F₂ (fun E => ?_) hh (Or.inl (by kernel_rfl)) (Or.inl (by kernel_rfl)) ⟨hm, hp, rfl, rfl, rfl⟩ ?_ ?_ ?_
    · refine wpAny_mono (hT _ s₂ E F₂) (fun v s₃ h₃ => ?_) fun _ _ e => e
      exact pairs_iter (c := { c with g := g }) (F₂.keeps h₃.1) hh h₃.2 E
    · rintro g2 j d2 μ₂ ν₂ hd2 ⟨hm2, hp2, hi2, rfl, hf2⟩
      obtain ⟨q, hq, rfl⟩ : ∃ q, t[j]? = some q ∧ d2 = (nt q.1, sg [q.2]) := by
        rw [List.getElem?_map] at hd2
        cases q : t[j]? with
        | none => rw [q] at hd2; cases hd2
        | some t' => rw [q] at hd2; cases hd2; exact ⟨t', rfl, rfl⟩
      obtain ⟨st1, st2⟩ := find_step (fun q => hitF i n q.1) hq hf2
      have sg1 : hitF i n q.1 = true → signF n (t, i) = q.2 := fun e => by
        unfold signF
        rw [st1 e]
      have S2 : Std P { c with g := g2 } := ⟨h, by kernel_rfl, by kernel_rfl⟩
      refine Ex.ite (b := decide (i = 0)) (EvB.cmp (Ev.name hi2) (Ev.nat 0) op_eqN) (fun e0 => ?_) fun e0 => ?_
      · have e0 : i = 0 := by simpa using e0
        refine Ex.ite (b := decide (n / 4096 % 16 * 4096 = q.1)) (EvB.cmp (Ev.callF (Ev.global S2) ho56 hfd56 (by decide) (EvL.cons (Ev.name hm2) EvL.nil) (CallIs.ofPure room.deeper (ifmt_pureN h n))) (Ev.name rfl) op_eqN) (fun e1 => ?_) fun e1 => ?_
        · have hit : hitF i n q.1 = true := by unfold hitF; rw [if_pos e0]; exact e1
          refine Ex.append (Ev.name hp2) (l := sgn ((ftable.zipIdx.take i).map (signF n))) (by unfold updM; simp) (fun s' F' => own g2 _ _ s' F') (Ev.name (d := sg [q.2]) rfl) hlen ?_
          refine Ex.brk fun s' F' => ⟨_, _, ⟨?_, ?_, ?_⟩, F'⟩
          · exact hm2
          · exact hp2
          · rw [ua, ← fin', sg1 hit]
        · have miss : hitF i n q.1 = false := by unfold hitF; rw [if_pos e0]; exact e1
          refine Ex.nil (Ex.then ?_)
          refine Ex.nil (Ex.then ?_)
          refine Ex.nil fun s' F' => ⟨_, _, ⟨?_, ?_, ?_, rfl, st2 miss⟩, F'⟩
          · exact hm2
          · exact hp2
          · exact hi2
      · have e0 : i ≠ 0 := by simpa using e0
        refine Ex.ite (b := decide (n &&& q.1 = q.1)) (EvB.cmp (Ev.bin (Ev.name hm2) (Ev.name (d := nt q.1) rfl) op_andN) (Ev.name (d := nt q.1) rfl) op_eqN) (fun e1 => ?_) fun e1 => ?_
        · have hit : hitF i n q.1 = true := by unfold hitF; rw [if_neg e0]; exact e1
          refine Ex.append (Ev.name hp2) (l := sgn ((ftable.zipIdx.take i).map (signF n))) (by unfold updM; simp) (fun s' F' => own g2 _ _ s' F') (Ev.name (d := sg [q.2]) rfl) hlen ?_
          refine Ex.brk fun s' F' => ⟨_, _, ⟨?_, ?_, ?_⟩, F'⟩
          · exact hm2
          · exact hp2
          · rw [ua, ← fin', sg1 hit]
        · have miss : hitF i n q.1 = false := by unfold hitF; rw [if_neg e0]; exact e1
          refine Ex.nil (Ex.then ?_)
          refine Ex.nil (Ex.then ?_)
          refine Ex.nil fun s' F' => ⟨_, _, ⟨?_, ?_, ?_, rfl, st2 miss⟩, F'⟩
          · exact hm2
          · exact hp2
          · exact hi2
    · rintro μ₂ ν₂ ⟨hm2, hp2, rfl⟩
      exact Ex.nil fun s' F' => ⟨_, _, ⟨hm2, hp2, rfl⟩, F'⟩
    · rintro μ₂ ν₂ ⟨hm2, hp2, hi2, rfl, hf2⟩
      have none' : t.find? (fun q => hitF i n q.1) = none := by
        have e : t.take (t.map fun q => (nt q.1, sg [q.2])).length = t := List.take_of_length_le (by simp)
        rwa [e] at hf2
      have sg0 : signF n (t, i) = if i = 0 then 63 else 45 := by
        unfold signF
        rw [none']
      refine Ex.ite (b := decide (i = 0)) (EvB.cmp (Ev.name hi2) (Ev.nat 0) op_eqN) (fun e0 => ?_) fun e0 => ?_
      · have e0 : i = 0 := by simpa using e0
        refine Ex.append (Ev.name hp2) (l := sgn ((ftable.zipIdx.take i).map (signF n))) (by unfold updM; simp) (fun s' F' => own g _ _ s' F') (Ev.strc [63]) hlen ?_
        refine Ex.nil (Ex.then ?_)
        refine Ex.nil (Ex.then ?_)
        refine Ex.nil fun s' F' => ⟨_, _, ⟨?_, ?_, ?_⟩, F'⟩
        · exact hm2
        · exact hp2
        · rw [ua, ← fin', sg0, if_pos e0]
      · have e0 : i ≠ 0 := by simpa using e0
        refine Ex.append (Ev.name hp2) (l := sgn ((ftable.zipIdx.take i).map (signF n))) (by unfold updM; simp) (fun s' F' => own g _ _ s' F') (Ev.strc [45]) hlen ?_
        refine Ex.nil (Ex.then ?_)
        refine Ex.nil (Ex.then ?_)
        refine Ex.nil fun s' F' => ⟨_, _, ⟨?_, ?_, ?_⟩, F'⟩
        · exact hm2
        · exact hp2
        · rw [ua, ← fin', sg0, if_neg e0]
  · rintro μ' ν' ⟨hm, hp, rfl⟩
    refine Ex.nil fun s₂ F₂ => ?_
    refine (?_ : Ex c μ' _ _ _ _) s₂ F₂
    refine Ex.ret (d := sg (fmode n)) (Ev.joinSigns (a := a) (cs := fmode n) (Ev.name hp) ?_ ?_) fun v s₃ F₃ hv => ⟨v, rfl, F₃.kp fun _ e => e, ?_⟩
    · have : ftable.zipIdx.take ((ftable.map rowD).zipIdx.map fun p => (nt p.2, p.1)).length = ftable.zipIdx := List.take_of_length_le (by simp)
      rw [this]
      unfold updM
      rw [if_pos rfl]
      rfl
    · simp [fmode, ftable]
    · simp only [Rep] at hv ⊢; exact hv
end Mine
end
section
open PySem PySem.W PyProof.Rows
set_option autoImplicit false
set_option maxRecDepth 100000
namespace Mine
section
variable {M : Model} {A : Around} {E : Value → Shared → Prop} {s : Shared}

/-- an exception on its way: its text's tuple, its newest entry, no context -/
structure Fly (base : Heap) (l : List Env) (e : Addr) (cls : Value) (t : Addr) (fl : Value) (h : Heap) : Prop where
  stays : base.StaysIn h
  new : base.get? e = none
  frames : h.FunFrames base l
  rec_ : ∃ oe vs T oT ts, h.get? e = some oe ∧ oe.cls = cls ∧ oe.data = .fields vs ∧ vs[0]? = some (.ref t) ∧ vs[1]? = some (.ref T) ∧ vs[2]? = some .none ∧ base.get? T = none ∧ T ≠ e ∧ h.get? T = some oT ∧ oT.data = .fields ts ∧ ts[3]? = some fl

theorem Fly.tail {base h : Heap} {env : Env} {l : List Env} {e t : Addr} {cls fl : Value} (x : Fly base (env :: l) e cls t fl h) : Fly base l e cls t fl h := ⟨x.stays, x.new, x.frames.2.2, x.rec_⟩
theorem Fly.keeps {base h h' : Heap} {l : List Env} {e t : Addr} {cls fl : Value} (x : Fly base l e cls t fl h) (k : ∀ b o, h.get? b = some o → h'.get? b = some o) : Fly base l e cls t fl h' := by
  obtain ⟨oe, vs, T, oT, ts, r1, r2, r3, r4, r5, r6, r7, r8, r9, r⟩ := x.rec_
  exact ⟨fun b o q => k _ _ (x.stays b o q), x.new, x.frames.of_keeps fun b o q _ => ⟨o, k _ _ q, rfl⟩, oe, vs, T, oT, ts, k _ _ r1, r2, r3, r4, r5, r6, r7, r8, k _ _ r9, r⟩

/-- its newest entry's flight is set -/
theorem fly_flight {base : Heap} {l : List Env} {e t : Addr} {cls fl : Value} {f : Option Addr} {Q : Unit → Shared → Prop} (x : Fly base l e cls t fl s.heap)
    (hQ : ∀ h', Fly base l e cls t (f.elim .none fun f => rawInt f) h' → s.heap.UpToSlots h' → Q () { s with heap := h' }) : wpAny M A (setFlight (.ref e) f) Q E s := by
  obtain ⟨oe, vs, T, oT, ts, r1, r2, r3, r4, r5, r6, r7, r8, r9, r10, r11⟩ := x.rec_
  have hsz3 : 3 < ts.size := (Array.getElem?_eq_some_iff.mp r11).1
  generalize hu : (Obj.mapFields (·.setIfInBounds 3 (f.elim Value.none fun f => rawInt f))) = up
  have other : ∀ b, b ≠ T → (s.heap.update T up).get? b = s.heap.get? b := fun b hb => Heap.get?_update_other _ _ (Ne.symm hb)
  have noRec : ∀ b o, s.heap.get? b = some o → (∀ vs, o.data ≠ .fields vs) → b ≠ T := fun b o hb hnf q => by
    rw [q, r9] at hb; cases hb; exact hnf ts r10
  unfold setFlight
  refine wpAny_bind (wpAny_field r1 r3 r5 ?_)
  rw [if_pos (show (Value.ref T != Value.none) = true from by simp)]
  refine wpAny_setField r9 r10 hsz3 ?_
  rw [hu]
  refine hQ _ ⟨fun b o q => (other b fun z => by rw [z, r7] at q; cases q).trans (x.stays b o q), x.new, x.frames.of_keeps fun b o hb hnf => ⟨o, (other b (noRec b o hb hnf)).trans hb, rfl⟩, ?_⟩ fun b o hb hnf => ⟨o.slots, (other b (noRec b o hb hnf)).trans hb⟩
  subst hu
  exact ⟨oe, vs, T, _, _, (other e (Ne.symm r8)).trans r1, r2, r3, r4, r5, r6, r7, r8, Heap.get?_update_self _ r9 (Obj.isFreed_of_fields (Obj.data_mapFields r10 _)), Obj.data_mapFields r10 _, by simp [hsz3]⟩

/-- an entry is put ahead of its others -/
theorem fly_entry {base : Heap} {env : Env} {outer : List Env} {L e t : Addr} {oe : Obj} {vs : Array Value} {head : Value} {hadNext : Bool} {Q : Unit → Shared → Prop} (hfr : A.frames = some (env :: outer)) (hl : s.heap.FunFrames base (env :: outer)) (hf : env.frame = some L)
    (he : s.heap.get? e = some oe) (hkb : base.StaysIn s.heap) (hen : base.get? e = none) (hd : oe.data = .fields vs) (h0 : vs[0]? = some (.ref t)) (h2 : vs[2]? = some .none)
    (h : ∀ h', Fly base (env :: outer) e oe.cls t (rawInt L) h' → s.heap.UpToSlots h' → Q () { s with heap := h' }) :
    wpAny M A (do let a ← frameOf env; let pl ← entryPlaceOf L hadNext; let b ← EntryCells.newEntry head a .none (rawInt L) .none pl; setField (.ref e) 1 b) Q E s := by
  have hsz : 2 < vs.size := (Array.getElem?_eq_some_iff.mp h2).1
  have hsz1 : 1 < vs.size := by omega
  have hene : e ∉ (env :: outer).filterMap (·.frame) := fun hm => by
    obtain ⟨_, o, ho, hnf⟩ := hl.mem hm
    rw [he] at ho; cases ho; exact hnf vs hd
  refine wpAny_bind (wpAny_frameOf_fun hfr hl hf fun h₁ hs₁ => wpAny_bind (wpAny_entryPlaceOf fun pl hpl => ?_))
  unfold EntryCells.newEntry newFields
  refine wpAny_bind (wpAny_newObj_type ?_ (hpl.sizeOk5 _ _ _ _ _))
  have e1 : h₁.get? e = some oe := (hs₁.2.1 e hene).trans he
  have kb : base.StaysIn h₁ := fun b o q => (hs₁.2.1 b fun hm => by rw [(hl.mem hm).1] at q; cases q).trans (hkb b o q)
  generalize hoT : ({ cls := .type "traceback", dict := none, data := .fields ([head, .ref L, .none, rawInt L, .none] ++ (if pl.isEmpty then List.replicate 6 Value.none else pl)).toArray } : Obj) = oT
  have dT : oT.data = .fields ([head, .ref L, .none, rawInt L, .none] ++ (if pl.isEmpty then List.replicate 6 Value.none else pl)).toArray := by rw [← hoT]
  have T3 : ([head, .ref L, .none, rawInt L, .none] ++ (if pl.isEmpty then List.replicate 6 Value.none else pl)).toArray[3]? = some (rawInt L) := by
    rw [List.getElem?_toArray]; rfl
  have fT : oT.isFreed = false := Obj.isFreed_of_fields dT
  have e2 : (h₁.push oT).get? e = some oe := Heap.get?_push_of_some _ e1
  refine wpAny_setField e2 hd (by omega) ?_
  have hTe : h₁.objs.size ≠ e := Nat.ne_of_gt (Heap.lt_size e1)
  generalize hu : (Obj.mapFields (·.setIfInBounds 1 (Value.ref h₁.objs.size))) = up
  have d3 : (up oe).data = .fields (vs.setIfInBounds 1 (.ref h₁.objs.size)) := by rw [← hu]; exact Obj.data_mapFields hd _
  have c3 : (up oe).cls = oe.cls := by rw [← hu]; exact Obj.cls_mapFields _ _
  have e3 := Heap.get?_update_self up e2 (Obj.isFreed_of_fields d3)
  have t3 : ((h₁.push oT).update e up).get? h₁.objs.size = some oT := (Heap.get?_update_other _ _ (Ne.symm hTe)).trans (Heap.get?_push_size h₁ fT)
  have keep : ∀ b o, b ≠ e → h₁.get? b = some o → ((h₁.push oT).update e up).get? b = some o := fun b o hbe hb => by
    rw [Heap.get?_update_other _ _ (Ne.symm hbe)]; exact Heap.get?_push_of_some _ hb
  have noRec : ∀ b o, s.heap.get? b = some o → (∀ vs, o.data ≠ .fields vs) → b ≠ e := fun b o hb hnf q => by
    rw [q, he] at hb; cases hb; exact hnf vs hd
  refine h _ ⟨fun b o q => keep b o (fun z => by rw [z, hen] at q; cases q) (kb b o q), hen, hl.of_keeps fun b o hb hnf => ?_, ?_⟩ fun b o hb hnf => ?_
  · obtain ⟨sl, hs⟩ := hs₁.2.2 b o hb
    exact ⟨_, keep b _ (noRec b o hb hnf) hs, rfl⟩
  · exact ⟨_, _, h₁.objs.size, oT, _, e3, c3, d3, by rw [Array.getElem?_setIfInBounds_ne (by decide)]; exact h0, by simp [hsz1], by rw [Array.getElem?_setIfInBounds_ne (by decide)]; exact h2, kb.fresh, hTe, t3, dT, T3⟩
  · obtain ⟨sl, hs⟩ := hs₁.2.2 b o hb
    exact ⟨sl, keep b _ (noRec b o hb hnf) hs⟩

/-- the frame that it has come to is noted -/
theorem fly_note {base : Heap} {env : Env} {outer : List Env} {L e t : Addr} {cls : Value} {Q : Unit → Shared → Prop} (hfr : A.frames = some (env :: outer)) (hf : env.frame = some L) (x : Fly base (env :: outer) e cls t .none s.heap)
    (h : ∀ h', Fly base (env :: outer) e cls t (rawInt L) h' → s.heap.UpToSlots h' → Q () { s with heap := h' }) : wpAny M A (noteFrame (.ref e) env) Q E s := by
  obtain ⟨oe, vs, T, oT, ts, r1, r2, r3, r4, r5, r6, r7, r8, r9, r10, r11⟩ := x.rec_
  subst r2
  unfold noteFrame
  simp only [hf]
  refine wpAny_bind (wpAny_field r1 r3 r5 ?_)
  rw [if_pos (show (Value.ref T != Value.none) = true from by simp)]
  refine wpAny_bind (wpAny_field r9 r10 r11 ?_)
  rw [if_neg (show ¬ ((Value.none == rawInt L) = true) from by simp [rawInt])]
  refine wpAny_bind (wpAny_setField r9 r10 (Array.getElem?_eq_some_iff.mp r11).1 ?_)
  have other : ∀ b, b ≠ T → (s.heap.update T (Obj.mapFields (·.setIfInBounds 3 Value.none))).get? b = s.heap.get? b := fun b hb => Heap.get?_update_other _ _ (Ne.symm hb)
  have noRec : ∀ b o, s.heap.get? b = some o → (∀ vs, o.data ≠ .fields vs) → b ≠ T := fun b o hb hnf q => by
    rw [q, r9] at hb; cases hb; exact hnf ts r10
  refine fly_entry (t := t) hfr (x.frames.of_keeps fun b o hb hnf => ⟨o, (other b (noRec b o hb hnf)).trans hb, rfl⟩) hf ((other e (Ne.symm r8)).trans r1)
    (fun b o q => (other b fun z => by rw [z, r7] at q; cases q).trans (x.stays b o q)) x.new r3 r4 r6 fun h' y u => h h' y fun b o hb hnf => u b o ((other b (noRec b o hb hnf)).trans hb) hnf
/-- noted already -/
theorem fly_noted {base : Heap} {l : List Env} {env : Env} {L e t : Addr} {cls : Value} {Q : Unit → Shared → Prop} (hf : env.frame = some L) (x : Fly base l e cls t (rawInt L) s.heap) (h : Q () s) : wpAny M A (noteFrame (.ref e) env) Q E s := by
  obtain ⟨oe, vs, T, oT, ts, r1, r2, r3, r4, r5, r6, r7, r8, r9, r10, r11⟩ := x.rec_
  unfold noteFrame
  simp only [hf]
  refine wpAny_bind (wpAny_field r1 r3 r5 ?_)
  rw [if_pos (show (Value.ref T != Value.none) = true from by simp)]
  refine wpAny_bind (wpAny_field r9 r10 r11 ?_)
  rw [if_pos (show (rawInt L == rawInt L) = true from by simp)]
  exact wpAny_pure h

/-- a loop's own activation hands the exception on -/
theorem came_back {base : Heap} {env : Env} {l : List Env} {e L t : Addr} {cls : Value} (hf : env.frame = some L) (hh : Fly base l e cls t (rawInt L) s.heap)
    (hQ : ∀ h', Fly base l e cls t (rawInt L) h' → s.heap.UpToSlots h' → E (.ref e) { s with heap := h' }) : cameBackBy M A env E (.ref e) s := by
  obtain ⟨oe, vs, T, oT, ts, r1, r2, r3, r4, r5, _⟩ := hh.rec_
  unfold cameBackBy
  refine wpAny_bind (wpAny_field r1 r3 r5 ?_)
  rw [if_neg (show ¬ ((Value.ref T == Value.none) = true) from by simp)]
  rw [hf]
  first
  | exact fly_flight hh hQ
  | exact wpAny_bind (wpAny_pure (fly_flight hh hQ))

/-- raised within a loop, on its way out of the def -/
theorem raise_out {base h : Heap} {env : Env} {outer : List Env} {L e : Addr} {cls : Value} {args : List Value} {R : Result → Shared → Prop} {E' : Value → Shared → Prop}
    (hfr : A.frames = some (env :: outer)) (hf : env.frame = some L) (hkb : base.StaysIn h) (hl : h.FunFrames base (env :: outer)) (hx : Heap.MadeExcOf h s.heap e cls args)
    (hQ : ∀ h' t, Fly base outer e cls t .none h' → h'.TupAt t args → base.get? t = none → s.heap.UpToSlots h' → R (.error (.ref e)) { s with heap := h' }) :
    notedBy M A env (cameBackBy M A env (fun e s' => wpAny M A (leaving env e) (fun _ s'' => R (.error e) s'') E' s')) (.ref e) s := by
  obtain ⟨t, he, htn, ht⟩ := hx.there
  have fresh : ∀ b, h.get? b = none → base.get? b = none := fun b hb => by
    cases hq : base.get? b with
    | none => rfl
    | some o' => have := hkb b o' hq; rw [hb] at this; cases this
  unfold notedBy noteFrame
  simp only [hf]
  refine wpAny_bind (wpAny_field he rfl (x := .none) rfl ?_)
  rw [if_neg (by decide)]
  refine fly_entry (t := t) hfr (hl.of_keeps fun b o hb _ => ⟨o, hx.keeps b o hb, rfl⟩) hf he (fun b o hb => hx.keeps b o (hkb b o hb)) (fresh e hx.new) rfl rfl rfl fun h₁ x₁ u₁ => ?_
  refine came_back hf x₁ fun h₂ x₂ u₂ => ?_
  unfold leaving
  refine wpAny_bind (fly_noted hf x₂ (fly_flight (f := none) x₂ fun h₃ x₃ u₃ => ?_))
  have up : s.heap.UpToSlots h₃ := (Heap.UpToSlots.trans (h₂ := h₁) u₁ u₂).trans u₃
  exact hQ h₃ t x₃.tail (Heap.TupAt.of_slots ⟨_, _, ht, rfl, rfl⟩ up) (fresh t htn) up

/-- the frames below stand as dicts -/
def DictFrames (h : Heap) (l : List Env) : Prop := ∀ env ∈ l, env.scope.kind ≠ .module ∧ ∃ L o, env.frame = some L ∧ h.get? L = some o ∧ ∃ es ep, o.data = .dict es ep
theorem DictFrames.fun {h base : Heap} : ∀ {l : List Env}, DictFrames h l → (∀ env ∈ l, ∀ a, env.frame = some a → base.get? a = none) → h.FunFrames base l
  | [], _, _ => trivial
  | env :: l, x, n => by
    obtain ⟨hk, L, o, hf, ho, es, ep, hd⟩ := x env (.head _)
    exact ⟨hk, ⟨L, o, hf, n env (.head _) L hf, ho, fun vs q => by rw [hd] at q; cases q⟩, DictFrames.fun (fun e he => x e (.tail _ he)) fun e he => n e (.tail _ he)⟩
end

section
variable {c : Cx} {μ : Vars} {ν : Muts}
/-- while True: -/
theorem Ex.forever {body orelse rest : List Stmt} {k : Nat} {tp pos : Pos} {P : Flow → Shared → Prop} {E : Value → Shared → Prop} (J : Nat → Vars → Muts → Prop) (n : Nat) (h0 : J n μ ν)
    (turn : ∀ n μ' ν', J n μ' ν' → Ex c μ' ν' body (fun f s' => match f with
      | .next | .cont => ∃ m μ'' ν'', m < n ∧ J m μ'' ν'' ∧ c.F μ'' ν'' s'
      | .brk => False
      | .ret v => P (.ret v) s') (notedBy c.M c.A c.env (cameBackBy c.M c.A c.env E))) :
    Ex c μ ν (.While (.Constant (.bool true) k tp) body orelse pos :: rest) P E := by
  refine Ex.cons fun s F => wpAny_While ?_
  refine codeAny_whileLoop (fun n s' => ∃ μ' ν', J n μ' ν' ∧ c.F μ' ν' s') ?_ n ⟨μ, ν, h0, F⟩
  rintro n s' ⟨μ', ν', hJ, F'⟩
  refine wpAny_mono (EvB.bool (c := c) (μ := μ') (ν := ν') (b := true) Ev.boolc rfl s' (fun _ _ => False) F') (fun t s₁ h₁ => ?_) fun _ _ e => e.elim
  obtain ⟨kp, rfl⟩ := h₁
  rw [if_pos rfl]
  refine wpAny_mono (turn n μ' ν' hJ s₁ (F'.keeps kp)) (fun f s₂ h₂ => ?_) fun _ _ e => e
  cases f with
  | next => obtain ⟨m, μ'', ν'', hm, hJ', F''⟩ := h₂; exact ⟨m, hm, μ'', ν'', hJ', F''⟩
  | cont => obtain ⟨m, μ'', ν'', hm, hJ', F''⟩ := h₂; exact ⟨m, hm, μ'', ν'', hJ', F''⟩
  | brk => exact h₂.elim
  | ret v => exact h₂
end
end Mine
end
section
open PySem PySem.W PyProof.Rows
set_option autoImplicit false
set_option maxRecDepth 100000
namespace Mine

/-- the merge, in plain words -/
abbrev Rows := Addr → List Nat
def stepRow (c : Nat) (l : List Nat) : List Nat := if l.head? = some c then l.tail else l
def headOk (ρ : Rows) (bs : List Addr) (a : Addr) : Bool := bs.all fun b => !decide ((ρ a).headD 0 ∈ (ρ b).drop 1)
def candOf (ρ : Rows) (bs : List Addr) : Option Nat := (bs.find? (headOk ρ bs)).map fun a => (ρ a).headD 0
def liveOf (ρ : Rows) (bs : List Addr) : List Addr := bs.filter fun b => !(ρ b).isEmpty
def afterC (ρ : Rows) (bs : List Addr) (c : Nat) : Rows := fun b => if b ∈ bs then stepRow c (ρ b) else ρ b
def mergeF : Nat → Rows → List Addr → List Nat → Rows × Option (List Nat)
  | 0, ρ, _, _ => (ρ, none)
  | n + 1, ρ, bs, R => if liveOf ρ bs = [] then (ρ, some R) else match candOf ρ (liveOf ρ bs) with
    | none => (ρ, none)
    | some c => mergeF n (afterC ρ (liveOf ρ bs) c) (liveOf ρ bs) (R ++ [c])
def total (ρ : Rows) (bs : List Addr) : Nat := (bs.map fun b => (ρ b).length).sum

theorem stepRow_le (c : Nat) (l : List Nat) : (stepRow c l).length ≤ l.length := by unfold stepRow; split <;> simp
theorem total_live (ρ : Rows) : ∀ bs, total ρ (liveOf ρ bs) = total ρ bs
  | [] => rfl
  | b :: bs => by
    have ih := total_live ρ bs
    unfold total liveOf at ih ⊢
    rw [List.filter_cons]
    cases q : ρ b with
    | nil => simp only [List.isEmpty_nil, Bool.not_true, Bool.false_eq_true, if_false, List.map_cons, List.sum_cons, ih, q, List.length_nil, Nat.zero_add]
    | cons x r => simp only [List.isEmpty_cons, Bool.not_false, if_true, List.map_cons, List.sum_cons, ih]
theorem total_after {ρ : Rows} {c : Nat} (bs : List Addr) : ∀ cs : List Addr, (∀ b ∈ cs, b ∈ bs) → total (afterC ρ bs c) cs ≤ total ρ cs ∧ ((∃ b ∈ cs, (ρ b).head? = some c) → total (afterC ρ bs c) cs < total ρ cs)
  | [], _ => ⟨Nat.le_refl _, fun ⟨_, h, _⟩ => by cases h⟩
  | b :: cs, hs => by
    obtain ⟨h1, h2⟩ := total_after (ρ := ρ) (c := c) bs cs fun x hx => hs x (.tail _ hx)
    have hb := hs b (.head _)
    unfold total at h1 h2 ⊢
    simp only [List.map_cons, List.sum_cons]
    have e : (afterC ρ bs c b) = stepRow c (ρ b) := by unfold afterC; rw [if_pos hb]
    have e1 := stepRow_le c (ρ b)
    rw [e]
    refine ⟨by omega, ?_⟩
    rintro ⟨x, hx, hh⟩
    rcases List.mem_cons.mp hx with rfl | hx
    · have : (stepRow c (ρ x)).length < (ρ x).length := by
        unfold stepRow
        rw [if_pos hh]
        cases q : ρ x with
        | nil => rw [q] at hh; cases hh
        | cons y r => simp
      omega
    · have := h2 ⟨x, hx, hh⟩
      omega
theorem live_mem {ρ : Rows} {bs : List Addr} {b : Addr} (h : b ∈ liveOf ρ bs) : b ∈ bs ∧ ∃ x r, ρ b = x :: r := by
  obtain ⟨h1, h2⟩ := List.mem_filter.mp h
  refine ⟨h1, ?_⟩
  cases q : ρ b with
  | nil => rw [q] at h2; cases h2
  | cons x r => exact ⟨x, r, rfl⟩
theorem cand_mem {ρ : Rows} {bs : List Addr} {c : Nat} (h : candOf ρ (liveOf ρ bs) = some c) : ∃ a ∈ liveOf ρ bs, (ρ a).head? = some c := by
  unfold candOf at h
  cases q : (liveOf ρ bs).find? (headOk ρ (liveOf ρ bs)) with
  | none => rw [q] at h; cases h
  | some a =>
    rw [q] at h
    simp only [Option.map_some, Option.some.injEq] at h
    have ha := List.mem_of_find?_eq_some q
    obtain ⟨_, x, r, e⟩ := live_mem ha
    refine ⟨a, ha, ?_⟩
    rw [e] at h ⊢
    exact congrArg some h
theorem total_next {ρ : Rows} {bs : List Addr} {c : Nat} (h : candOf ρ (liveOf ρ bs) = some c) : total (afterC ρ (liveOf ρ bs) c) (liveOf ρ bs) < total ρ bs := by
  rw [← total_live ρ bs]
  exact (total_after (liveOf ρ bs) (liveOf ρ bs) fun _ h => h).2 (cand_mem h)

section
open Classical in
/-- the rows are known lists -/
noncomputable def kmap (ν0 : Muts) (as : List Addr) (ρ : Rows) : Muts := fun b => if b ∈ as then some ((ρ b).map nt) else ν0 b
theorem kmap_in {ν0 : Muts} {as : List Addr} {ρ : Rows} {b : Addr} (h : b ∈ as) : kmap ν0 as ρ b = some ((ρ b).map nt) := if_pos h
theorem kmap_set {ν0 : Muts} {as : List Addr} {ρ ρ' : Rows} {b : Addr} {l : List Nat} (h : b ∈ as) (h1 : ρ' b = l) (h2 : ∀ x, x ≠ b → ρ' x = ρ x) : updM (kmap ν0 as ρ) b (l.map nt) = kmap ν0 as ρ' := by
  funext x
  unfold updM kmap
  by_cases q : x = b
  · subst q; rw [if_pos rfl, if_pos h, h1]
  · rw [if_neg q]
    by_cases m : x ∈ as
    · rw [if_pos m, if_pos m, h2 x q]
    · rw [if_neg m, if_neg m]

variable {c : Cx} {μ : Vars} {ν : Muts} {P : Flow → Shared → Prop} {E : Value → Shared → Prop} {rest : List Stmt}
/-- del xs[0] -/
theorem Ex.delHead {o i : Expr} {p pos : Pos} {a : Addr} {l : List D} {d : D} (ho : Ev c μ ν o (.val (.ref a))) (hi : Ev c μ ν i (.int 0)) (hν : ν a = some (d :: l)) (own : ∀ s, c.F μ ν s → c.X a ∨ c.s₀.heap.get? a = none) (hsz : l.length < 16777216)
    (hr : Ex c μ (updM ν a l) rest P E) : Ex c μ ν (.Delete [.Subscript o i p] pos :: rest) P E := by
  refine Ex.cons fun s F => wpAny_Delete (wpAny_deleteEach_cons ?_)
  rw [arm_delete_Subscript]
  refine wpAny_bind (wpAny_mono (ho s E F) (fun ov s₁ h₁ => ?_) fun _ _ e => e)
  have hv := h₁.2
  simp only [Rep] at hv
  subst hv
  have F1 := F.keeps h₁.1
  refine wpAny_bind (wpAny_holding (wpAny_mono (hi s₁ E F1) (fun iv s₂ h₂ => ?_) fun _ _ e => e))
  have hw := h₂.2
  simp only [Rep] at hw
  obtain ⟨t, rfl⟩ := hw
  have F2 := F1.keeps h₂.1
  refine wpAny_bind (wpAny_standAt (wpAny_bind (wpAny_holding (FD.delHead F2 hν (own _ F2) hsz fun s₃ F3 => ?_))))
  exact wpAny_release' (wpAny_deleteEach_nil (hr s₃ F3))

theorem op_is_none {d : D} (hd : ∃ i : Int, d = .int i) : Op2 c μ ν (compareOp .Is) d .none (.bool false) := fun s E x y F hx hy => by
  obtain ⟨i, rfl⟩ := hd
  simp only [Rep] at hx hy
  obtain ⟨t, rfl⟩ := hx
  subst hy
  exact wpAny_is_other rfl (by intro e; cases e) ⟨Kp.refl s, rfl⟩
theorem op_none_none : Op2 c μ ν (compareOp .Is) .none .none (.bool true) := fun s E x y F hx hy => by
  simp only [Rep] at hx hy
  subst hx hy
  exact wpAny_is_self rfl ⟨Kp.refl s, rfl⟩

/-- raise cls(text) -/
theorem Ex.raiseText {cls newId initId : String} (FC : ExcCallFacts cls newId initId) (FR : ExcRaiseFacts cls) {x text : Str} {np cpos pos p : Pos} {k : Nat} (hh : c.A.handled = none) (hx : Ev c μ ν (.Name x np) (.val (.type cls)))
    (h : ∀ s h' e t, c.F μ ν s → Heap.MadeExc s.heap h' e cls [.str text t] → E (.ref e) { s with heap := h' })
    (he : starEach [.Constant (.str text) k p] c.env = [(false, eval (.Constant (.str text) k p) c.env)] := by rfl) : Ex c μ ν (.Raise (some (.Call (.Name x np) [.Constant (.str text) k p] [] cpos)) none pos :: rest) P E := by
  refine Ex.cons fun s F => Raise_madeB FC FR hh (wpAny_mono (hx s E F) (fun f s₁ h₁ => ⟨by simpa [Rep] using h₁.2, ?_⟩) fun _ _ e => e) he rfl
  have F1 := F.keeps h₁.1
  rw [he]
  refine Calls.spliced_cons (wpAny_mono (Ev.str (c := c) (μ := μ) (ν := ν) (k := k) (pos := p) s₁ E F1) (fun v s₂ h₂ => ?_) fun _ _ e => e)
  have hv := h₂.2
  simp only [Rep] at hv
  obtain ⟨t, rfl⟩ := hv
  exact Calls.spliced_nil ⟨by rw [sizeLine_eq]; simp, fun h' e hx => h s₂ h' e t (F1.keeps h₂.1) hx⟩
end
end Mine
end
section
open PySem PySem.W PyProof.Rows
set_option autoImplicit false
set_option maxRecDepth 100000
set_option maxHeartbeats 1000000
namespace Mine
variable {P : Params} {prog : Program} {w : World} {hL : Heap}

theorem merge_at (h : HL P hL) : DefAt hL 28 (fdAt P 28) (bodyAt P 28) ["sequences"] := def_at h 28 _ 27

theorem EvB.row {c : Cx} {μ : Vars} {ν : Muts} {e : Expr} {d : D} {α : Type} {f : α → D} {l : List α} (h : Ev c μ ν e d) (hd : LD ν d (l.map f)) (hsz : l.length < 16777216) (he : isTrue e c.env (eval e c.env) = (do let v ← eval e c.env; standAt e.pos; holding [v] (truthy v)) := by rfl) : EvB c μ ν e (!l.isEmpty) := by
  have := EvB.list h hd (by simp only [List.length_map]; omega) he
  simpa using this

abbrev refs (as : List Addr) : List D := as.map fun a => D.val (.ref a)
abbrev refusal : Str := "Inconsistent hierarchy"
/-- what the merge brings -/
def MergeEnd (hL : Heap) (H : Addr → Prop) (ν : Muts) (as : List Addr) (outer : List Env) (s : Shared) (out : Rows × Option (List Nat)) (r : Result) (s' : Shared) : Prop :=
  match out.2 with
  | some R => ∃ a, a ∉ as ∧ ν a = none ∧ r = .ok (.ret (.ref a)) ∧ Eff hL H (· ∈ as) ν (updM (kmap ν as out.1) a (R.map nt)) s s'
  | none => ∃ e t u L a l sm h', r = .error (.ref e) ∧ a ∉ as ∧ ν a = none ∧ Eff hL H (· ∈ as) ν (updM (kmap ν as out.1) a l) s sm ∧ s.heap.get? L = none ∧ (∃ m, sm.heap.Ns L m) ∧ s' = { sm with heap := h' } ∧
      Fly (hideAll sm.heap (L :: outer.filterMap (·.frame))) outer e (.type "RuntimeError") t .none h' ∧ h'.TupAt t [.str refusal u] ∧
      (hideAll sm.heap (L :: outer.filterMap (·.frame))).get? t = none ∧ sm.heap.UpToSlots h'

theorem merge_call (h : HL P hL) (A : Around) (s : Shared) (vs : List Value) (H : Addr → Prop) (ν : Muts) (as : List Addr) (ρ : Rows) (outer : List Env) (room : Room A 1) (hlib : Lib hL s.heap) (hid : ∀ b, H b → (s.heap.get? b).isSome = true) (hidL : ∀ b, H b → hL.get? b = none)
    (hmut : ∀ a l, ν a = some l → hL.get? a = none ∧ ∃ us, s.heap.PlainList a us ∧ Reps (mask H ν s.heap) l us.toList) (hmH : ∀ b, (ν b).isSome = true → ¬ H b) (hk : ∀ b ∈ as, ν b = some ((ρ b).map nt)) (hnd : as.Nodup) (hsz : as.length ≤ 64) (hlen : ∀ b, (ρ b).length ≤ 64)
    (htot : total ρ as < 16777216) (hr : Reps (mask H ν s.heap) [.list (refs as)] vs) (hfr : A.frames = some outer) (hout : DictFrames s.heap outer) (n : Nat) (hn : total ρ as < n) :
    codeAny (model prog w) A (.call (.ref 28) ⟨vs, []⟩) (MergeEnd hL H ν as outer s (mergeF n ρ as [])) s := by
  refine call_def (X := (· ∈ as)) (H := H) (ν := ν) (merge_at h) ?_ (by have := room.depth; omega) hlib hid hidL hmH hmut hr ?_
  · obtain ⟨v, rfl, _⟩ := hr.one
    rfl
  let c : Cx := ⟨prog, w, A.deeper (callEnvC (fdAt P 28) s.heap.objs.size 28), hL, s, (· ∈ as), H, noView, callEnvC (fdAt P 28) s.heap.objs.size 28, fun _ => true, fun b => (ν b).isSome = true⟩
  have hh : c.A.handled = none := room.handled
  have S : Std P c := ⟨h, by kernel_rfl, by kernel_rfl⟩
  generalize hgo : mergeF n ρ as [] = out
  refine Ex.assignM (c := c) (EvNew.evM (EvNew.list (ds := []) EvL.nil)) (Or.inl (by kernel_rfl)) ?_
  rintro ν₁ d₁ ⟨aR, hνR, rfl, rfl⟩
  have hR : aR ∉ as := fun q => by rw [hk aR q] at hνR; cases hνR
  let st : Rows → List Nat → Muts := fun ρ R => updM (kmap ν as ρ) aR (R.map nt)
  have st0 : updM ν aR [] = st ρ [] := by
    have : kmap ν as ρ = ν := by
      funext b
      unfold kmap
      by_cases q : b ∈ as
      · rw [if_pos q, hk b q]
      · rw [if_neg q]
    simp only [st, this]; rfl
  have stIn : ∀ ρ' R b, b ∈ as → st ρ' R b = some ((ρ' b).map nt) := fun ρ' R b hb => by
    have : b ≠ aR := fun q => hR (q ▸ hb)
    simp only [st, updM, this, if_false]
    exact kmap_in hb
  have stR : ∀ ρ' R, st ρ' R aR = some (R.map nt) := fun ρ' R => by simp only [st, updM, if_true]
  rw [st0]
  refine Ex.forever (c := c) (fun m μ' ν' => ∃ ρ' bs R, μ' "sequences" = some (.list (refs bs)) ∧ μ' "result" = some (.val (.ref aR)) ∧ ν' = st ρ' R ∧ mergeF m ρ' bs R = out ∧ total ρ' bs < m ∧
    (∀ b ∈ bs, b ∈ as) ∧ bs.Nodup ∧ bs.length ≤ 64 ∧ (∀ b, (ρ' b).length ≤ 64) ∧ R.length + total ρ' bs ≤ total ρ as) n ⟨ρ, as, [], rfl, rfl, rfl, hgo, hn, fun _ h => h, hnd, hsz, hlen, by simp⟩ ?_
  rintro m μ' ν' ⟨ρ', bs, R, hμs, hμr, rfl, hm, htm, hin, hnd', hsz', hlen', hRl⟩
  obtain ⟨m, rfl⟩ : ∃ m', m = m' + 1 := ⟨m - 1, by omega⟩
  have known : ∀ b ∈ bs, LD (st ρ' R) (.val (.ref b)) ((ρ' b).map nt) := fun b hb => LD.known b _ (stIn ρ' R b (hin b hb))
  refine CompTo.ex (c := c) (out := refs (liveOf ρ' bs)) (CompTo.of_eq (CompTo.one (fun a => D.val (.ref a)) bs (fun b => !(ρ' b).isEmpty) (fun a => D.val (.ref a)) (EvI.list (Ev.name hμs) hh) (by kernel_rfl) (by decide) (by omega)
    (fun s C H N g a ha => EvT.one (EvB.row (Ev.name rfl) (known a ha) (by have := hlen' a; omega))) (fun s C H N g a ha _ => Ev.name rfl)) rfl) (by kernel_rfl) (Or.inl (by kernel_rfl)) ?_
  generalize hlive : liveOf ρ' bs = live
  have hlin : ∀ b ∈ live, b ∈ as := fun b hb => hin b (live_mem (hlive ▸ hb)).1
  have hne : ∀ b ∈ live, ∃ x r, ρ' b = x :: r := fun b hb => (live_mem (hlive ▸ hb)).2
  have hlnd : live.Nodup := hlive ▸ hnd'.sublist (List.filter_sublist)
  have hllen : live.length ≤ 64 := by have : live.length ≤ bs.length := hlive ▸ List.length_filter_le _ _; omega
  have knownL : ∀ b ∈ live, LD (st ρ' R) (.val (.ref b)) ((ρ' b).map nt) := fun b hb => LD.known b _ (stIn ρ' R b (hlin b hb))
  have own : ∀ (g : View) (μ : Vars) (ν : Muts) (b : Addr) (s' : Shared), FD { c with g := g } μ ν s' → b ∈ as ∨ (b = aR ∧ (ν aR).isSome = true) → c.X b ∨ c.s₀.heap.get? b = none := fun g μ ν₂ b s' F hb => by
    rcases hb with hb | ⟨rfl, hb⟩
    · exact Or.inl hb
    · refine Or.inr ((F.newM b hb).resolve_left fun q => ?_)
      have q : (ν b).isSome = true := q
      rw [hνR] at q; cases q
  refine Ex.ite (EvB.not (EvB.row (Ev.name rfl) (LD.data _) (by omega))) (fun e => ?_) fun e => ?_
  · have e : live = [] := by simpa using e
    refine Ex.ret (Ev.name (d := .val (.ref aR)) (by exact hμr)) fun v s' F hv => ?_
    have ho : out = (ρ', some R) := by
      rw [← hm]; unfold mergeF; rw [hlive, if_pos e]
    simp only [Rep] at hv
    subst hv ho
    exact ⟨aR, hR, hνR, rfl, Eff.of F rfl fun b => Iff.rfl⟩
  have e : live ≠ [] := by simpa using e
  refine Ex.nil (Ex.then ?_)
  -- the search for a candidate
  have cand : ∀ (i : Nat) (a : Addr), live[i]? = some a → a ∈ live := fun i a ha => List.mem_of_getElem? ha
  refine Ex.forLoop (c := c) (ds := refs live) (fun i μ₂ ν₂ => μ₂ "sequences" = some (.list (refs live)) ∧ μ₂ "result" = some (.val (.ref aR)) ∧ ν₂ = st ρ' R ∧ (live.take i).find? (headOk ρ' live) = none ∧ (i ≠ 0 → μ₂ "candidate" = some .none))
    (fun μ₂ ν₂ => μ₂ "sequences" = some (.list (refs live)) ∧ μ₂ "result" = some (.val (.ref aR)) ∧ ν₂ = st ρ' R ∧ ∃ k, candOf ρ' live = some k ∧ μ₂ "candidate" = some (nt k))
    (EvI.list (Ev.name rfl) hh) (Or.inl (by kernel_rfl)) ⟨rfl, hμr, rfl, rfl, fun h => absurd rfl h⟩ ?_ ?_ ?_
  · rintro g i d μ₂ ν₂ hd ⟨hs2, hr2, rfl, hf2, -⟩
    obtain ⟨a, ha, rfl⟩ := map_get hd
    obtain ⟨x, xs, hx⟩ := hne a (cand i a ha)
    obtain ⟨st1, st2⟩ := find_step (headOk ρ' live) ha hf2
    refine Ex.assign (d := nt x) (Ev.itemN (Ev.name rfl) (Ev.nat 0) (knownL a (cand i a ha)) (by rw [hx]; rfl) (by have := hlen' a; simp only [List.length_map]; omega)) (Or.inl (by kernel_rfl)) ?_
    refine Ex.forLoop (c := { c with g := g }) (ds := refs live) (fun j μ₃ ν₃ => μ₃ "sequences" = some (.list (refs live)) ∧ μ₃ "result" = some (.val (.ref aR)) ∧ ν₃ = st ρ' R ∧ μ₃ "candidate" = some (nt x) ∧ (live.take j).all (fun b => !decide (x ∈ (ρ' b).drop 1)) = true)
      (fun μ₃ ν₃ => μ₃ "sequences" = some (.list (refs live)) ∧ μ₃ "result" = some (.val (.ref aR)) ∧ ν₃ = st ρ' R ∧ μ₃ "candidate" = some .none ∧ headOk ρ' live a = false)
      (EvI.list (Ev.name hs2) hh) (Or.inl (by kernel_rfl)) ⟨hs2, hr2, rfl, rfl, rfl⟩ ?_ ?_ ?_
    · rintro g2 j d3 μ₃ ν₃ hd3 ⟨hs3, hr3, rfl, hc3, hall⟩
      obtain ⟨b, hb, rfl⟩ := map_get hd3
      have hbl := cand j b hb
      refine Ex.ite (b := decide (x ∈ (ρ' b).drop 1)) (EvB.cmp (Ev.name hc3) (Ev.from (Ev.name rfl) (knownL b hbl) (Ev.nat 1) (by have := hlen' b; omega)) (op_inN (LD.data _))) (fun e1 => ?_) fun e1 => ?_
      · refine Ex.assign (d := .none) Ev.nonec (Or.inl (by kernel_rfl)) ?_
        refine Ex.brk fun s' F' => ⟨_, _, ⟨?_, ?_, rfl, ?_, ?_⟩, F'⟩
        · exact hs3
        · exact hr3
        · rfl
        · unfold headOk
          rw [hx]
          refine List.all_eq_false.mpr ⟨b, hbl, ?_⟩
          rw [List.headD_cons, e1]; decide
      · refine Ex.nil (Ex.then ?_)
        refine Ex.nil fun s' F' => ⟨_, _, ⟨?_, ?_, rfl, ?_, ?_⟩, F'⟩
        · exact hs3
        · exact hr3
        · exact hc3
        · rw [List.take_add_one, hb, List.all_append, hall]
          simp only [Option.toList_some, List.all_cons, List.all_nil, e1]
          rfl
    · rintro μ₃ ν₃ ⟨hs3, hr3, rfl, hc3, hno⟩
      exact Ex.nil fun s' F' => ⟨_, _, ⟨hs3, hr3, rfl, st2 hno, fun _ => hc3⟩, F'⟩
    · rintro μ₃ ν₃ ⟨hs3, hr3, rfl, hc3, hall⟩
      have hyes : headOk ρ' live a = true := by
        unfold headOk
        rw [hx, List.headD_cons]
        simpa [refs] using hall
      refine Ex.brk fun s' F' => ⟨_, _, ⟨hs3, hr3, rfl, x, ?_, hc3⟩, F'⟩
      unfold candOf
      rw [st1 hyes, Option.map_some, hx, List.headD_cons]
  · rintro μ₂ ν₂ ⟨hs2, hr2, rfl, k, hk2, hc2⟩
    refine Ex.ite (b := false) (EvB.cmp (Ev.name hc2) Ev.nonec (op_is_none ⟨_, rfl⟩)) (fun e => by cases e) fun _ => ?_
    refine Ex.nil (Ex.then ?_)
    refine Ex.append (Ev.name hr2) (stR ρ' R) (fun s' F' => own noView _ _ _ s' F' (Or.inr ⟨rfl, by rw [stR]; rfl⟩)) (Ev.name hc2) (by have := hRl; simp only [List.length_map]; omega) ?_
    have e1 : updM (st ρ' R) aR (R.map nt ++ [nt k]) = st (afterC ρ' (live.take 0) k) (R ++ [k]) := by
      have : afterC ρ' (live.take 0) k = ρ' := by funext b; simp [afterC]
      rw [this]
      funext b
      simp only [st, updM, List.map_append, List.map_cons, List.map_nil]
      split <;> rfl
    rw [e1]
    refine Ex.forLoop (c := c) (ds := refs live) (fun i μ₃ ν₃ => μ₃ "sequences" = some (.list (refs live)) ∧ μ₃ "result" = some (.val (.ref aR)) ∧ ν₃ = st (afterC ρ' (live.take i) k) (R ++ [k]) ∧ μ₃ "candidate" = some (nt k)) (fun _ _ => False)
      (EvI.list (Ev.name hs2) hh) (Or.inl (by kernel_rfl)) ⟨hs2, hr2, rfl, hc2⟩ ?_ (fun _ _ h => h.elim) ?_
    · rintro g i d μ₃ ν₃ hd ⟨hs3, hr3, rfl, hc3⟩
      obtain ⟨a, ha, rfl⟩ := map_get hd
      have hal := cand i a ha
      obtain ⟨x, xs, hx⟩ := hne a hal
      have hnot : a ∉ live.take i := fun q => by
        obtain ⟨j, hj, e⟩ := List.mem_iff_getElem.mp q
        rw [List.getElem_take] at e
        have hj' : j < i := by rw [List.length_take] at hj; omega
        obtain ⟨hi', e'⟩ := List.getElem?_eq_some_iff.mp ha
        have := (List.getElem_inj (i := j) (j := i) (h₀ := by rw [List.length_take] at hj; omega) (h₁ := hi') hlnd).mp (e.trans e'.symm)
        omega
      have tk : live.take (i + 1) = live.take i ++ [a] := by rw [List.take_add_one, ha]; rfl
      have ea : afterC ρ' (live.take i) k a = x :: xs := by unfold afterC; rw [if_neg hnot, hx]
      have knA : st (afterC ρ' (live.take i) k) (R ++ [k]) a = some ((x :: xs).map nt) := by rw [stIn _ _ a (hlin a hal), ea]
      refine Ex.ite (b := decide (x = k)) (EvB.cmp (Ev.itemN (Ev.name rfl) (Ev.nat 0) (LD.known a _ knA) rfl (by have := hlen' a; rw [hx] at this; simp only [List.length_map]; omega)) (Ev.name hc3) op_eqN) (fun e => ?_) fun e => ?_
      · have e : x = k := by simpa using e
        refine Ex.delHead (Ev.name rfl) Ev.int knA (fun s' F' => own g _ _ _ s' F' (Or.inl (hlin a hal))) (by have := hlen' a; rw [hx] at this; simp only [List.length_map, List.length_cons] at this ⊢; omega) ?_
        refine Ex.nil (Ex.then ?_)
        refine Ex.nil fun s' F' => ⟨_, _, ⟨?_, ?_, ?_, ?_⟩, F'⟩
        · exact hs3
        · exact hr3
        · have hane : a ≠ aR := fun q => hR (q ▸ hlin a hal)
          simp only [st]
          rw [updM_comm hane]
          congr 1
          refine kmap_set (hlin a hal) ?_ fun y hy => ?_
          · unfold afterC
            rw [if_pos (by rw [tk]; simp), hx]
            unfold stepRow
            rw [if_pos (by rw [e]; rfl)]; rfl
          · unfold afterC
            rw [tk]
            by_cases q : y ∈ live.take i
            · rw [if_pos q, if_pos (List.mem_append_left _ q)]
            · rw [if_neg q, if_neg (by simp [q, hy])]
        · exact hc3
      · have e : x ≠ k := by simpa using e
        refine Ex.nil (Ex.then ?_)
        refine Ex.nil fun s' F' => ⟨_, _, ⟨?_, ?_, ?_, ?_⟩, F'⟩
        · exact hs3
        · exact hr3
        · have : afterC ρ' (live.take (i + 1)) k = afterC ρ' (live.take i) k := by
            funext y
            unfold afterC
            rw [tk]
            by_cases q : y ∈ live.take i
            · rw [if_pos q, if_pos (List.mem_append_left _ q)]
            · by_cases r : y = a
              · subst r
                rw [if_neg q, if_pos (by simp), hx]
                unfold stepRow
                rw [if_neg (by simp [e])]
              · rw [if_neg q, if_neg (by simp [q, r])]
          rw [this]
        · exact hc3
    · rintro μ₃ ν₃ ⟨hs3, hr3, rfl, hc3⟩
      refine Ex.nil (Ex.then ?_)
      have full : live.take (refs live).length = live := List.take_of_length_le (by simp)
      rw [full]
      have hnext := total_next (ρ := ρ') (bs := bs) (c := k) (by rw [hlive]; exact hk2)
      rw [hlive] at hnext
      refine Ex.nil fun s' F' => ⟨m, _, _, Nat.lt_succ_self _, ⟨afterC ρ' live k, live, R ++ [k], hs3, hr3, rfl, ?_, by omega, hlin, hlnd, hllen, fun b => ?_, ?_⟩, F'⟩
      · rw [← hm]
        conv => rhs; unfold mergeF
        rw [hlive, if_neg e, hk2]
      · unfold afterC
        split
        · exact Nat.le_trans (stepRow_le k _) (hlen' b)
        · exact hlen' b
      · simp only [List.length_append, List.length_cons, List.length_nil]; omega
  · rintro μ₂ ν₂ ⟨hs2, hr2, rfl, hf2, hc2⟩
    refine Ex.nil (Ex.then ?_)
    have hl0 : (refs live).length ≠ 0 := by
      cases live with
      | nil => exact absurd rfl e
      | cons _ _ => simp
    refine Ex.ite (b := true) (EvB.cmp (Ev.name (hc2 hl0)) Ev.nonec op_none_none) (fun _ => ?_) fun e => by cases e
    have full : live.take (refs live).length = live := List.take_of_length_le (by simp)
    rw [full] at hf2
    refine Ex.raiseText PySem.F.excCall_RuntimeError PySem.F.excRaise_RuntimeError hh (Ev.builtin S Boot.«RuntimeError») fun s₁ h₁ e₁ t F₁ hx => ?_
    have hno : out = (ρ', none) := by
      rw [← hm]; unfold mergeF; rw [hlive, if_neg e]
      unfold candOf
      rw [hf2]; rfl
    subst hno
    obtain ⟨mm, _, hns, _⟩ := id F₁.vars
    obtain ⟨ol, es, ep, hol, hdl, _⟩ := id hns
    have dict1 : DictFrames s₁.heap (c.env :: outer) := fun env he => by
      rcases List.mem_cons.mp he with rfl | he
      · exact ⟨by show (fdAt P 28).scope.kind ≠ .module; rw [show (fdAt P 28).scope.kind = .function by kernel_rfl]; decide, _, ol, rfl, hol, es, ep, hdl⟩
      · obtain ⟨k1, L, o, k2, k3, es', ep', k4⟩ := hout env he
        refine ⟨k1, L, o, k2, F₁.keep L o (fun q => ?_) k3, es', ep', k4⟩
        have q : L ∈ as := q
        obtain ⟨_, us, ⟨_, hp⟩, _⟩ := hmut L _ (hk L q)
        rw [k3] at hp; cases hp; cases k4
    refine raise_out (base := hideAll s₁.heap (c.env.locals :: outer.filterMap (·.frame))) (outer := outer) (L := c.env.locals) (Around.frames_deeper hfr) rfl (fun b o q => of_hideAll _ q) (dict1.fun fun env he a ha => hideAll_none _ ?_) (Heap.MadeExc.of hx) fun h₂ t₂ hfl htup hbt hup => ?_
    · rcases List.mem_cons.mp he with rfl | he
      · cases ha; exact .head _
      · exact .tail _ (List.mem_filterMap.mpr ⟨env, he, ha⟩)
    · exact ⟨e₁, t₂, t, c.env.locals, aR, _, s₁, h₂, rfl, hR, hνR, Eff.of F₁ rfl fun b => Iff.rfl, F₁.freshL.2, ⟨mm, hns⟩, rfl, hfl, htup, hbt, (Heap.UpToSlots.of_keeps hx.keeps).trans hup⟩
end Mine
end
section
open PySem PySem.W PyProof.Rows
set_option autoImplicit false
set_option maxRecDepth 100000
namespace Mine
section
variable {prog : Program} {w : World} {A : Around} {E : Value → Shared → Prop} {s : Shared}

theorem entry_unchain : entryFor table "proto.unchain" = some Builtin.«proto.unchain» := entryFor_of_tree (by kernel_rfl)

/-- a list's iterator comes to its end while an exception is handled -/
theorem next_list_end_h {it l e : Addr} {i : Nat} {items : Array Value} {oe : Obj} {ws : Array Value} {Q : Option Value → Shared → Prop} (hh : A.handled = some (.ref e)) (he : s.heap.get? e = some oe) (hde : oe.data = .fields ws) (hw : ws[2]? = some .none) (hne : e ≠ it)
    (hit : s.heap.IsListIter it l i) (hl : s.heap.IsList l items) (hx : items[i]? = none) (hQ : ∀ h', Heap.ExtBut it s.heap h' → Q none { s with heap := h' }) : wpAny (model prog w) A (pyNext (.ref it)) Q E s := by
  obtain ⟨o, ho, hc, hd⟩ := id hit
  obtain ⟨ol, hol, _, nl, hdl⟩ := hl
  unfold pyNext
  refine wpAny_bind (wpAny_attempt (wpAny_callSpecial?_slot (name := Str.ofString "__next__") hit.typeIs slot_listiter_next (wpAny_call_entry slot_listiter_next hit.typeIs entry_listiter_next ?_ (args_listiter_next _))))
  show wpAny _ _ (field (.ref it) 0 >>= _) _ _ s
  refine wpAny_bind (wpAny_field ho hd (x := .ref l) rfl ?_)
  show wpAny _ _ (if (Value.ref l == Value.none) = true then _ else _) _ _ s
  rw [if_neg (show ¬ ((Value.ref l == Value.none) = true) from Bool.false_ne_true)]
  show wpAny _ _ (field (.ref it) 1 >>= _) _ _ s
  refine wpAny_bind (wpAny_field ho hd (x := .int i 0) rfl ?_)
  show wpAny _ _ (seqItems? (.ref l) >>= _) _ _ s
  refine wpAny_bind (wpAny_seqItems hol hdl ?_)
  simp only [Int.toNat_natCast, hx]
  refine wpAny_bind (wpAny_rule (wpAny_bind (wpAny_setField ho hd (by simp) ?_)))
  show wpAny _ _ (newExc (.type "StopIteration") [] >>= _) _ _ _
  refine wpAny_bind ?_
  simp only [newExc, newTuple]
  refine wpAny_bind (wpAny_newObj_type ?_ (by size_fits))
  refine wpAny_bind (m := firstArgMember _ _) (wpAny_of_eq (a := Value.none) (by first | rfl | (simp only [firstArgMember]; rfl)) ?_)
  refine wpAny_newObj_type ?_ (by size_fits)
  simp only [raiseNew]
  refine wpAny_bind (wpAny_handled ?_)
  rw [show A.in1.handled = some (.ref e) from hh]
  generalize hh₁ : (Heap.update s.heap it _) = h₁
  have e1 : h₁.get? e = some oe := by rw [← hh₁]; exact (Heap.get?_update_other _ _ (Ne.symm hne)).trans he
  have x1 : Heap.SameBut it s.heap h₁ := by rw [← hh₁]; exact Heap.SameBut.update ..
  generalize hh₂ : h₁.push _ = h₂
  have e2 : h₂.get? e = some oe := by rw [← hh₂]; exact Heap.get?_push_of_some _ e1
  have x2 : Heap.ExtBut it s.heap h₂ := by rw [← hh₂]; exact x1.extBut.push _
  generalize hh₃ : h₂.push _ = h₃
  have e3 : h₃.get? e = some oe := by rw [← hh₃]; exact Heap.get?_push_of_some _ e2
  have x3 : Heap.ExtBut it s.heap h₃ := by rw [← hh₃]; exact x2.push _
  have sz : h₂.objs.size ≠ e := Nat.ne_of_gt (Heap.lt_size e2)
  have szit : h₂.objs.size ≠ it := Nat.ne_of_gt (by rw [← hh₂, Heap.size_push, x1.1]; exact Nat.lt_succ_of_lt (Heap.lt_size ho))
  obtain ⟨oS, vS, a3, cS, dS, zS⟩ : ∃ o vs, h₃.get? h₂.objs.size = some o ∧ o.cls = .type "StopIteration" ∧ o.data = .fields vs ∧ 2 < vs.size := ⟨_, _, by rw [← hh₃]; exact Heap.get?_push_size _ rfl, rfl, rfl, by simp; omega⟩
  generalize hsz : h₂.objs.size = a at *
  show wpAny _ _ (if (Value.ref e != Value.ref a) = true then _ else _) _ _ _
  rw [if_pos (by simp only [bne_iff_ne, ne_eq, Value.ref.injEq]; exact fun q => sz q.symm)]
  refine wpAny_bind (wpAny_holding (wpAny_runValue (codeAny_builtin entry_unchain ?_)))
  show wpAny _ _ (field (.ref e) 2 >>= _) _ _ _
  refine wpAny_bind (wpAny_field e3 hde hw ?_)
  rw [if_pos (show (Value.none == Value.none) = true from rfl)]
  refine wpAny_pure ?_
  show wpAny _ _ _ _ _ _
  refine wpAny_bind (wpAny_setField a3 dS zS (wpAny_throw ?_))
  refine wpAny_bind (wpAny_isInstance (T := "StopIteration") (b := true) ⟨_, Heap.get?_update_self _ a3 (Obj.isFreed_of_fields (Obj.data_mapFields dS _)), (Obj.cls_mapFields _ _).trans cS⟩ isSubtype_stop ?_)
  refine wpAny_pure (hQ _ fun b o' hb q => ?_)
  have q3 := x3 b o' hb q
  have : b ≠ a := fun r => by
    rw [r, ← hsz] at q
    have := Heap.lt_size q
    rw [← hh₂, Heap.size_push, x1.1] at this
    exact absurd this (Nat.not_lt.mpr (Nat.le_succ _))
  exact (Heap.get?_update_other _ _ (Ne.symm this)).trans q3

variable {c : Cx} {μ : Vars} {ν : Muts}
/-- the frame's own things, that may not lie in the known heap -/
structure OwnAll (c : Cx) (ν : Muts) (K : List Addr) : Prop where
  loc : c.env.locals ∈ K
  cells : ∀ n a, c.env.cells.lookup n = some a → a ∈ K
  muts : ∀ a, (ν a).isSome = true → a ∈ K
  hid : ∀ a, c.H a → a ∈ K
  out : ∀ a ∈ K, c.hL.get? a = none

/-- all that stands but the frame's own things becomes the known heap -/
theorem FD.rebase {s : Shared} {K : List Addr} (F : c.F μ ν s) (O : OwnAll c ν K) : FD { c with hL := hideAll s.heap K } μ ν s where
  same := F.same
  keep := F.keep
  live := F.live
  lib := ⟨fun b o _ e => of_hideAll _ e, F.lib.tab⟩
  fn := F.fn
  hid := F.hid
  hidL := fun a ha => hideAll_none _ (O.hid a ha)
  mutH := F.mutH
  froz := F.froz
  frozM := F.frozM
  dom := F.dom
  newM := F.newM
  freshL := ⟨hideAll_none _ O.loc, F.freshL.2⟩
  freshC := fun n a h1 h2 => ⟨hideAll_none _ (O.cells n a h2), (F.freshC n a h1 h2).2⟩
  apart := F.apart
  vars := F.vars
  muts := fun a l e => ⟨hideAll_none _ (O.muts a (by rw [e]; rfl)), (F.muts a l e).2⟩
theorem HL.rebase {P : Params} {s : Shared} {K : List Addr} (h : HL P c.hL) (F : c.F μ ν s) (O : OwnAll c ν K) : HL P (hideAll s.heap K) := by
  obtain ⟨h0, k, b, r, l⟩ := h.base
  refine ⟨h0, k, b, r, fun a o ha e => ?_⟩
  have e1 := l a o ha e
  exact hideAll_get _ (F.lib.get a o ha e1) fun q => by rw [O.out a q] at e1; cases e1
/-- an exception has come by: the frame's dict has new slots, the callee's frame is gone -/
theorem FD.landed {s sm : Shared} {h' : Heap} {tk : Nat} {L : Addr} {X : Addr → Prop} {ν' : Muts} (F : c.F μ ν s) (e : Eff c.hL c.H X ν ν' s sm) (hX : MayX c ν s X) (hL : s.heap.get? L = none) (hN : ∃ m, sm.heap.Ns L m)
    (stay : ∀ b o, sm.heap.get? b = some o → b ≠ L → b ≠ c.env.locals → h'.get? b = some o) (up : sm.heap.UpToSlots h') : c.F μ ν' { sm with heap := h', toks := tk } := by
  have G := F.back e hX
  obtain ⟨mL, oL, esL, epL, hoL, hdL, _⟩ := hN
  obtain ⟨m, cm, hn, hc, hv⟩ := G.vars
  obtain ⟨ol, es, ep, hol, hdl, _⟩ := id hn
  have some' : ∀ b, b ≠ L → (sm.heap.get? b).isSome = true → (h'.get? b).isSome = true := fun b hb q => by
    obtain ⟨o, ho⟩ := Option.isSome_iff_exists.mp q
    by_cases r : b = c.env.locals
    · subst r
      obtain ⟨sl, hs⟩ := up _ _ hol fun vs q => by rw [hdl] at q; cases q
      rw [hs]; rfl
    · rw [stay b o ho hb r]; rfl
  have neL : ∀ b, (s.heap.get? b).isSome = true → b ≠ L := fun b q r => by rw [r, hL] at q; cases q
  have seqL : ∀ b o, sm.heap.get? b = some o → Obj.isSeq o = true → b ≠ L ∧ b ≠ c.env.locals := fun b o ho hs => ⟨fun q => (by
    rw [q, hoL] at ho; cases ho; simp [Obj.isSeq, hdL] at hs), ns_ne_seq hn ho hs⟩
  have fldL : ∀ b o, sm.heap.get? b = some o → Obj.isFields o = true → b ≠ L ∧ b ≠ c.env.locals := fun b o ho hs => ⟨fun q => (by
    rw [q, hoL] at ho; cases ho; simp [Obj.isFields, hdL] at hs), ns_ne_fields hn ho hs⟩
  have le : SeqLe (mask c.H ν' sm.heap) (mask c.H ν' h') := mask_le fun b o _ hs q => stay b o q (seqL b o q hs).1 (seqL b o q hs).2
  exact {
    same := by
      obtain ⟨h, tk', q⟩ := G.same
      exact ⟨h', tk, by rw [q]⟩
    keep := fun b o hb q => stay b o (G.keep b o hb q) (neL b (F.live b o q)) fun r => by rw [r, F.freshL.2] at q; cases q
    live := fun b o q => some' b (neL b (F.live b o q)) (G.live b o q)
    lib := ⟨fun b o hb q => stay b o (G.lib.get b o hb q) (fun r => (by rw [r, F.lib.fresh hL] at q; cases q)) fun r => (by rw [r, F.freshL.1] at q; cases q),
      fun t ht => some' t (neL t (F.lib.tab t ht)) (G.lib.tab t ht)⟩
    fn := F.fn
    hid := fun b hb => some' b (neL b (F.hid b hb)) (G.hid b hb)
    hidL := F.hidL
    mutH := G.mutH
    froz := fun b o q => by
      obtain ⟨h1, h2⟩ := G.froz b o q
      refine ⟨?_, h2⟩
      rcases h2 with h2 | h2
      · exact stay b o h1 (seqL b o h1 h2).1 (seqL b o h1 h2).2
      · exact stay b o h1 (fldL b o h1 h2).1 (fldL b o h1 h2).2
    frozM := G.frozM
    dom := G.dom
    newM := G.newM
    freshL := F.freshL
    freshC := F.freshC
    apart := F.apart
    vars := ⟨m, cm, up.ns hn, fun n a q => (by
        obtain ⟨o, ho, hd⟩ := hc n a q
        refine ⟨o, stay a o ho (fun r => ?_) (ns_ne_cell hn ⟨o, ho, hd⟩), hd⟩
        rw [r, hoL] at ho; cases ho; rw [hdL] at hd; cases hd), fun x d q => by
        obtain ⟨v, hr, hw⟩ := hv x d q
        exact ⟨v, Rep.mono le _ _ hr, hw⟩⟩
    muts := fun a l q => by
      obtain ⟨h1, vs, hp, hr⟩ := G.muts a l q
      obtain ⟨o, ho, hs⟩ := plain_seq hp
      exact ⟨h1, vs, hp.at fun o' e' => (by
        obtain ⟨n, hp'⟩ := hp
        rw [e'] at hp'; cases hp'
        exact stay a _ e' (seqL a _ e' rfl).1 (seqL a _ e' rfl).2), Reps.mono le _ _ hr⟩ }
end
end Mine
end
section
open PySem PySem.W PyProof.Rows
set_option autoImplicit false
set_option maxRecDepth 100000
namespace Mine
section
variable {prog : Program} {w : World} {A : Around}

/-- the walk of a list while an exception is handled -/
theorem walks_list_h {e : Addr} {oe : Obj} {ws : Array Value} (hh : A.handled = some (.ref e)) (hde : oe.data = .fields ws) (hw : ws[2]? = some .none) (I ax : Addr) (hne : ax ≠ I) (he : e ≠ I) (items : Array Value) :
    Walks prog w A I [I, ax, e] [I] items.size (fun i v => items[i]? = some v) (fun i h => h.IsListIter I ax i ∧ h.IsList ax items ∧ h.get? e = some oe) where
  sub := fun b hb => by simp at hb; simp [hb]
  frame := fun _ _ _ st hk => ⟨st.1.at fun o e => hk I (by simp) o e, st.2.1.at fun o e => hk ax (by simp) o e, hk e (by simp) _ st.2.2⟩
  item := fun i s Q E hi st hQ => by
    refine wpAny_pyNext_list_item st.1 st.2.1 (x := items[i]) (by simp [hi]) fun h' hit' hs' => ?_
    exact hQ _ h' s.toks (by simp [hi]) ⟨hit', st.2.1.extBut hs'.extBut hne, (hs'.2 e he).trans st.2.2⟩ fun b o hb e => hs'.extBut b o (fun h => hb (by simp [h])) e
  done := fun s Q E st hQ => next_list_end_h hh st.2.2 hde hw he st.1 st.2.1 (by simp) fun h' he' => hQ h' s.toks fun b o hb e => he' b o (fun h => hb (by simp [h])) e
  self := fun _ _ _ _ st hQ => wpAny_pyIter_listiter st.1 hQ
end

section
variable {c : Cx} {μ : Vars} {ν : Muts}
/-- the exception that is being handled lies in the known heap -/
structure Handling (c : Cx) (e : Addr) : Prop where
  handled : c.A.handled = some (.ref e)
  at_ : ∃ oe ws, c.hL.get? e = some oe ∧ oe.data = .fields ws ∧ ws[2]? = some .none
  notTab : e ∉ tabs

theorem EvI.listH {iter : Expr} {ds : List D} {e : Addr} (h : Ev c μ ν iter (.list ds)) (hh : Handling c e) : EvI c μ ν iter ds := by
  intro s E F
  refine wpAny_mono (h s E F) (fun xv s₁ h₁ => ?_) fun _ _ e => e
  have hr := h₁.2
  simp only [Rep] at hr
  obtain ⟨a, vs, rfl, hs, hv⟩ := hr
  have hL := hs.isList
  have F1 := F.keeps h₁.1
  obtain ⟨oe, ws, h1, h2, h3⟩ := hh.at_
  have he := F1.lib.get e oe hh.notTab h1
  refine wpAny_pyIter_list hL ?_
  have hlen : vs.size = ds.length := by rw [← hv.length]; simp
  have hne : a ≠ s₁.heap.objs.size := by
    obtain ⟨o, ho, _⟩ := hL
    exact Nat.ne_of_lt (Heap.lt_size ho)
  have hne2 : e ≠ s₁.heap.objs.size := Nat.ne_of_lt (Heap.lt_size he)
  refine ⟨s₁.heap.objs.size, [s₁.heap.objs.size, a, e], [s₁.heap.objs.size], fun i v => vs[i]? = some v, fun i h => h.IsListIter s₁.heap.objs.size a i ∧ h.IsList a vs ∧ h.get? e = some oe, rfl, ?_⟩
  have kp : Kp s₁ { s₁ with heap := s₁.heap.push { cls := .type "list_iterator", data := .fields #[.ref a, .int 0 0] } } := kp_push
  exact {
    walks := hlen ▸ walks_list_h hh.handled h2 h3 s₁.heap.objs.size a hne hne2 vs
    st := ⟨⟨_, Heap.get?_push_size _ rfl, rfl, rfl⟩, hL.push _, Heap.get?_push_of_some _ he⟩
    kp := h₁.1.trans kp
    fpOk := fun b hb => by
      simp only [List.mem_cons, List.not_mem_nil, or_false] at hb
      rcases hb with rfl | rfl | rfl
      · exact Or.inl (by simp)
      · obtain ⟨o, ho, hc, _, n, hd⟩ := hs
        obtain ⟨q1, q2, q3⟩ := mask_some.mp ho
        exact Or.inr (Or.inl ⟨o, Heap.get?_push_of_some _ q3, by simp [Obj.isSeq, hd], q1, q2⟩)
      · exact Or.inr (Or.inr ⟨oe, h1, hh.notTab, by simp [Obj.isFields, h2]⟩)
    wrOk := fun b hb => by
      simp only [List.mem_cons, List.not_mem_nil, or_false] at hb
      subst hb
      exact h₁.1.fresh (fresh_size (Nat.le_refl _))
    fields := fun i h st b hb => by
      simp only [List.mem_cons, List.not_mem_nil, or_false] at hb
      subst hb
      obtain ⟨⟨o, ho, _, hd⟩, _⟩ := st
      exact ⟨o, ho, by simp [Obj.isFields, hd]⟩
    vals := fun i v d hv' hd => by
      obtain ⟨u, hu, hr⟩ := hv.get hd
      have : vs[i]? = some u := by simpa using hu
      rw [this] at hv'; cases hv'
      exact hr.keeps kp }

/-- nested lists compared, however they are known -/
theorem op_eq_read {d₁ d₂ : D} {a b : List (List Nat)} (hu : c.A.units + 8 < cLine) (h1 : ∀ s v, c.F μ ν s → Rep (mask c.H ν s.heap) d₁ v → Rep (mask c.H noMuts s.heap) (nll a) v) (h2 : ∀ s v, c.F μ ν s → Rep (mask c.H ν s.heap) d₂ v → Rep (mask c.H noMuts s.heap) (nll b) v) :
    Op2 c μ ν (compareOp .Eq) d₁ d₂ (.bool (decide (a = b))) := fun s E x y F hx hy => by
  have hx := h1 s x F hx
  have hy := h2 s y F hy
  rw [← ll_ofN] at hx hy
  obtain ⟨as, q1⟩ := ll_reads mask_get hx
  obtain ⟨bs, q2⟩ := ll_reads mask_get hy
  refine SeqAt.compareEq_reads q1 q2 (canLay_lis _) (canLay_lis _) (by have := depth_lis (a.map ofN); simp only [PyData.depth]; omega) ⟨Kp.refl s, ?_⟩
  have e : PyData.eqv (pll (a.map ofN)) (pll (b.map ofN)) = decide (a = b) := by
    generalize hA : a.map ofN = A
    generalize hB : b.map ofN = B
    have : (a = b) ↔ (A = B) := by rw [← hA, ← hB]; exact ofNs_inj.symm
    simp only [PyData.eqv, eqv_lis, this]
  rw [e]
  simp only [Rep]
theorem op_ne_read {d₁ d₂ : D} {a b : List (List Nat)} (hu : c.A.units + 8 < cLine) (h1 : ∀ s v, c.F μ ν s → Rep (mask c.H ν s.heap) d₁ v → Rep (mask c.H noMuts s.heap) (nll a) v) (h2 : ∀ s v, c.F μ ν s → Rep (mask c.H ν s.heap) d₂ v → Rep (mask c.H noMuts s.heap) (nll b) v) :
    Op2 c μ ν (compareOp .NotEq) d₁ d₂ (.bool (decide (a ≠ b))) := fun s E x y F hx hy => by
  have hx := h1 s x F hx
  have hy := h2 s y F hy
  rw [← ll_ofN] at hx hy
  obtain ⟨as, q1⟩ := ll_reads mask_get hx
  obtain ⟨bs, q2⟩ := ll_reads mask_get hy
  refine SeqAt.compareNe_reads q1 q2 (canLay_lis _) (canLay_lis _) (by have := depth_lis (a.map ofN); simp only [PyData.depth]; omega) ⟨Kp.refl s, ?_⟩
  have e : PyData.eqv (pll (a.map ofN)) (pll (b.map ofN)) = decide (a = b) := by
    generalize hA : a.map ofN = A
    generalize hB : b.map ofN = B
    have : (a = b) ↔ (A = B) := by rw [← hA, ← hB]; exact ofNs_inj.symm
    simp only [PyData.eqv, eqv_lis, this]
  rw [e]
  simp [Rep]
theorem op_ne_liU {a b : List Int} (hu : c.A.units + 8 < cLine) : Op2 c μ ν (compareOp .NotEq) (li a) (li b) (.bool (decide (a ≠ b))) := fun s E x y F hx hy => by
  obtain ⟨as, h1⟩ := li_reads mask_get hx
  obtain ⟨bs, h2⟩ := li_reads mask_get hy
  refine SeqAt.compareNe_reads h1 h2 (canLay_ints a) (canLay_ints b) (by have := depth_ints a; simp only [PyData.depth]; omega) ⟨Kp.refl s, ?_⟩
  simp [PyData.eqv, eqv_ints, Rep]
/-- data is what it is -/
theorem read_data {d : D} {s : Shared} {v : Value} (h : Rep (mask c.H ν s.heap) d v) : Rep (mask c.H noMuts s.heap) d v := Rep.mono (mask_less fun a l e => by cases e) _ _ h
/-- a list of known lists is read -/
theorem read_refs {as : List Addr} {ρ : Rows} (hk : ∀ b ∈ as, ν b = some ((ρ b).map nt)) {s : Shared} {v : Value} (F : c.F μ ν s) (h : Rep (mask c.H ν s.heap) (.list (refs as)) v) : Rep (mask c.H noMuts s.heap) (nll (as.map ρ)) v := by
  simp only [Rep] at h
  obtain ⟨a, vs, rfl, hs, hr⟩ := h
  simp only [Rep]
  refine ⟨a, vs, rfl, hs.mono (mask_less fun a l e => by cases e), ?_⟩
  refine F.readRefs (as := as) (by simp) (fun r ar hr' => ?_) (refs_of hr)
  rw [hk ar (List.mem_of_getElem? hr'), List.getD_eq_getElem?_getD, List.getElem?_map, hr']
  rfl

theorem op_eqS {a b : Str} : Op2 c μ ν (compareOp .Eq) (.str a) (.str b) (.bool (a == b)) := fun s E x y F hx hy => by
  simp only [Rep] at hx hy
  obtain ⟨t, rfl⟩ := hx
  obtain ⟨u, rfl⟩ := hy
  exact PyProof.Rows.eq_str ⟨Kp.refl s, rfl⟩

/-- str(e), e an exception of the known heap with its one text -/
theorem call_strExc {e t : Addr} {u : Tok} {text : Str} (hu : c.A.units + 8 < cLine) (he : c.hL.ExcAt e "RuntimeError" (.ref t)) (het : e ∉ tabs) (ht : c.hL.TupAt t [.str text u]) (htt : t ∉ tabs) : CallIs c μ ν (.type "str") [.val (.ref e)] (.str text) := fun s E vs F hr => by
  obtain ⟨v, rfl, hv⟩ := hr.one
  simp only [Rep] at hv
  subst hv
  obtain ⟨o, ws, h1, h2⟩ := he
  obtain ⟨o', n, h3, h4⟩ := ht
  exact PySem.P.str_of_exc_one PySem.F.excStr_RuntimeError (by omega) ⟨o, ws, F.lib.get e o het h1, h2⟩ ⟨o', n, F.lib.get t o' htt h3, h4⟩ ⟨Kp.refl s, ⟨u, rfl⟩⟩

theorem call_isList {d : D} {ds : List D} (hd : LD ν d ds) : CallIs c μ ν (.builtin "isinstance") [d, .val (.type "list")] (.bool true) := fun s E vs F hr => by
  simp only [Reps] at hr
  obtain ⟨v, r, rfl, hv, u, r', rfl, hu, rfl⟩ := hr
  simp only [Rep] at hu
  subst hu
  obtain ⟨l, us, rfl, ⟨o, ho, hc, _⟩, _⟩ := hd.open F hv
  exact IsiPair.list_list ho hc ⟨Kp.refl s, rfl⟩

/-- lists put together, the new list known -/
theorem EvNew.cat {l r : Expr} {pos : Pos} {d₁ d₂ : D} {as bs : List D} (hl : Ev c μ ν l d₁) (hr : Ev c μ ν r d₂) (h1 : LD ν d₁ as) (h2 : LD ν d₂ bs) (hsz : as.length + bs.length ≤ 16777216) : EvNew c μ ν (.BinOp l .Add r pos) (as ++ bs) := by
  intro s E F
  refine wpAny_BinOp (wpAny_mono (hl s E F) (fun a s₁ q₁ => ?_) fun _ _ e => e)
  refine wpAny_mono (hr s₁ E (F.keeps q₁.1)) (fun b s₂ q₂ => ?_) fun _ _ e => e
  have F2 := F.keeps (q₁.1.trans q₂.1)
  obtain ⟨x, vs, rfl, hl', hr'⟩ := h1.open F2 (q₁.2.keeps q₂.1)
  obtain ⟨y, us, rfl, hb', hq'⟩ := h2.open F2 q₂.2
  obtain ⟨⟨cls, dd, data, sl⟩, ho, hc, n, hd⟩ := id hl'
  obtain ⟨⟨cls2, dd2, data2, sl2⟩, ho2, hc2, n2, hd2⟩ := id hb'
  simp only at hc hd hc2 hd2
  subst hc hd hc2 hd2
  have e1 : vs.size = as.length := by rw [← hr'.length]; simp
  have e2 : us.size = bs.length := by rw [← hq'.length]; simp
  refine concat_meets ⟨_, ho, rfl⟩ ⟨_, ho2, rfl⟩ noFill_list_add seq_list_add PySem.F.slot_list_add PySem.F.entry_list_add (PySem.F.args_list_add_2 _ _) (list_addW x y vs us n n2 dd dd2 sl sl2 (by rw [e1, e2, sizeLine_eq]; exact hsz)) ⟨ho, ho2, ?_⟩
  have kp := q₁.1.trans q₂.1
  refine ⟨_, vs ++ us, rfl, kp.trans kp_push, kp.fresh (fresh_size (Nat.le_refl _)), ⟨_, Heap.get?_push_size _ rfl⟩, Reps.mono ?_ _ _ (by simpa using hr'.append hq')⟩
  intro b o e _
  rw [mask_some] at e ⊢
  have hb : b ≠ s₂.heap.objs.size := Nat.ne_of_lt (Heap.lt_size e.2.2)
  exact ⟨e.1, by unfold updM; simp only [hb, if_false]; exact e.2.1, Heap.get?_push_of_some _ e.2.2⟩
end
end Mine
end
section
open PySem PySem.W PyProof.Rows
set_option autoImplicit false
set_option maxRecDepth 100000
namespace Mine
section
variable {c : Cx} {μ : Vars} {ν : Muts}

theorem FD.withA {s : Shared} (F : c.F μ ν s) (A : Around) : FD { c with A := A } μ ν s where
  same := F.same
  keep := F.keep
  live := F.live
  lib := F.lib
  fn := F.fn
  hid := F.hid
  hidL := F.hidL
  mutH := F.mutH
  froz := F.froz
  frozM := F.frozM
  dom := F.dom
  newM := F.newM
  freshL := F.freshL
  freshC := F.freshC
  apart := F.apart
  vars := F.vars
  muts := F.muts

/-- a local name is taken away -/
theorem FD.unbind {s : Shared} {E : Value → Shared → Prop} {x : Str} {d : D} {Q : Unit → Shared → Prop} (F : c.F μ ν s) (hk : c.env.kindOf x = some .local) (hx : μ x = some d)
    (h : ∀ s', c.F (fun y => if y = x then none else μ y) ν s' → Q () s') : wpAny c.M c.A (unbindName c.env x) Q E s := by
  obtain ⟨m, cm, hn, hc, hv⟩ := F.vars
  obtain ⟨v, _, hw⟩ := hv x d hx
  have hm : m x = some v := by
    rcases hw with ⟨_, q⟩ | ⟨q, _⟩
    · exact q
    · rw [hk] at q; rcases q with q | q <;> cases q
  refine wpAny_unbindName_local hk hn hm (by rw [F.fn]; rfl) fun h' u hn' hs' => h _ ?_
  have le : SeqLe (mask c.H ν s.heap) (mask c.H ν h') := mask_le fun b o _ hsq e => hs'.extBut b o (ns_ne_seq hn e hsq) e
  have loc : (h'.get? c.env.locals).isSome = true := by obtain ⟨o, _, _, e, _⟩ := hn'; rw [e]; rfl
  exact {
    same := by obtain ⟨h₁, tk, rfl⟩ := F.same; exact ⟨h', _, rfl⟩
    keep := fun b o hb e => hs'.extBut b o (by rintro rfl; rw [F.freshL.2] at e; cases e) (F.keep b o hb e)
    live := fun b o e => isSome_of_sameBut hs' loc (F.live b o e)
    froz := fun a o e => ⟨hs'.extBut a o ((F.froz a o e).2.elim (ns_ne_seq hn (F.froz a o e).1) (ns_ne_fields hn (F.froz a o e).1)) (F.froz a o e).1, (F.froz a o e).2⟩
    frozM := F.frozM
    dom := F.dom
    newM := F.newM
    lib := ⟨fun b o hb e => hs'.extBut b o (by rintro rfl; rw [F.freshL.1] at e; cases e) (F.lib.get b o hb e), fun t ht => isSome_of_sameBut hs' loc (F.lib.tab t ht)⟩
    fn := F.fn
    hidL := F.hidL
    mutH := F.mutH
    hid := fun a ha => isSome_of_sameBut hs' loc (F.hid a ha)
    freshL := F.freshL
    freshC := F.freshC
    apart := F.apart
    vars := ⟨_, cm, hn', fun n a e => (hc n a e).sameBut hs' (ns_ne_cell hn (hc n a e)), fun y d' e => by
      by_cases hy : y = x
      · simp only [hy, if_true] at e; cases e
      · simp only [hy, if_false] at e
        obtain ⟨v', hr', hw⟩ := hv y d' e
        refine ⟨v', Rep.mono le _ _ hr', ?_⟩
        rcases hw with ⟨a, b⟩ | b
        · exact Or.inl ⟨a, by simp [hy, b]⟩
        · exact Or.inr b⟩
    muts := fun a l e => by
      obtain ⟨h1, vs, hp, hr'⟩ := F.muts a l e
      obtain ⟨o, ho, hso⟩ := plain_seq hp
      exact ⟨h1, vs, hp.extBut hs'.extBut (ns_ne_seq hn ho hso), Reps.mono le _ _ hr'⟩ }

/-- the name of a handled exception goes behind the suite -/
theorem FD.endSuite {s : Shared} {E : Value → Shared → Prop} {x : Str} {pos : Pos} {Q : Unit → Shared → Prop} (F : c.F μ ν s) (hk : c.env.kindOf x = some .local) (h : ∀ s', c.F (fun y => if y = x then none else upd μ x .none y) ν s' → Q () s') :
    wpAny c.M c.A (do bindName c.env x .none; unbindBehindTheSuite c.env x pos) Q E s := by
  refine wpAny_bind (wpAny_bindName (FD.store (d := .none) F (Or.inl hk) rfl fun s₁ F₁ _ => ?_))
  unfold unbindBehindTheSuite
  exact wpAny_onRaise (wpAny_mono (FD.unbind (E := fun _ _ => False) F₁ hk (d := .none) (by simp [upd]) h) (fun _ _ q => q) fun _ _ e => e.elim)

/-- a RuntimeError has come, and is caught -/
theorem caught {P : Params} {ν' : Muts} {s sm : Shared} {h' : Heap} {L e t : Addr} {u : Tok} {text n : Str} {X : Addr → Prop} {K : List Addr} {b₀ : Stmt} {suite : List Stmt} {np pos : Pos} {rest : List ExceptHandler} {Q : Flow → Shared → Prop} {E : Value → Shared → Prop}
    (F : c.F μ ν s) (eff : Eff c.hL c.H X ν ν' s sm) (hX : MayX c ν s X) (hL : s.heap.get? L = none) (hN : ∃ m, sm.heap.Ns L m) (hfr : c.A.frames = some [c.env]) (hf : c.env.frame = some c.env.locals)
    (hfly : Fly (hideAll sm.heap (L :: [c.env].filterMap (·.frame))) [c.env] e (.type "RuntimeError") t .none h') (htup : h'.TupAt t [.str text u]) (htb : (hideAll sm.heap (L :: [c.env].filterMap (·.frame))).get? t = none) (hup : sm.heap.UpToSlots h')
    (S : Std P c) (O : OwnAll c ν' K) (hK : ∀ a ∈ K, (sm.heap.get? a).isSome = true) (hloc : c.env.kindOf n = some .local) (hx : c.env.kindOf "RuntimeError" = some .globalImplicit) (hv : nsIn (Mine.hd.heap_39 P) mainGlobals "RuntimeError" = some none)
    (body : ∀ hL₂, HL P hL₂ → Handling { c with A := c.A.mark (some (.ref e)), hL := hL₂ } e → hL₂.ExcAt e "RuntimeError" (.ref t) → hL₂.TupAt t [.str text u] → t ∉ tabs →
      Ex { c with A := c.A.mark (some (.ref e)), hL := hL₂ } (upd μ n (.val (.ref e))) ν' (b₀ :: suite) (fun f s₄ => wpAny c.M c.A (do bindName c.env n .none; unbindBehindTheSuite c.env n pos) (fun _ s₅ => Q f s₅) E s₄) (fun _ _ => False)) :
    wpAny c.M c.A (noteFrame (.ref e) c.env) (fun _ s₂ => wpAny c.M c.A (setFlight (.ref e) none) (fun _ s₃ =>
      wpAny c.M c.A (handleBy (.ref e) c.env (.ExceptHandler (some (.Name "RuntimeError" np)) (some n) (b₀ :: suite) pos :: rest)) Q E s₃) E s₂) E { sm with heap := h' } := by
  have hfm : [c.env].filterMap (·.frame) = [c.env.locals] := by simp [hf]
  rw [hfm] at hfly htb
  have stayOf : ∀ {h : Heap}, (hideAll sm.heap [L, c.env.locals]).StaysIn h → ∀ b o, sm.heap.get? b = some o → b ≠ L → b ≠ c.env.locals → h.get? b = some o := fun k b o q h1 h2 => k b o (hideAll_get _ q (by simp [h1, h2]))
  obtain ⟨mL, nL⟩ := id hN
  obtain ⟨mm, _, nn, _⟩ := (F.back eff hX).vars
  have fresh : ∀ b, (hideAll sm.heap [L, c.env.locals]).get? b = none → (∃ o, h'.get? b = some o ∧ ∀ es ep, o.data ≠ .dict es ep) → sm.heap.get? b = none := fun b hb ⟨o, ho, hd⟩ => by
    cases q : sm.heap.get? b with
    | none => rfl
    | some o' =>
      have dictAt : ∀ {a : Addr} {m : Str → Option Value}, sm.heap.Ns a m → b ≠ a := fun {a m} n z => by
        obtain ⟨o2, es, ep, h1, h2, _⟩ := hup.ns n
        rw [← z, ho] at h1; cases h1
        exact hd es ep h2
      rw [hideAll_get _ q (by simp [dictAt nL, dictAt nn])] at hb; cases hb
  have e0 : sm.heap.get? e = none := by
    obtain ⟨oe, vs, _, _, _, r1, _, r3, _⟩ := hfly.rec_
    exact fresh e hfly.new ⟨oe, r1, fun es ep q => by rw [r3] at q; cases q⟩
  have t0 : sm.heap.get? t = none := by
    obtain ⟨o, k, h1, _, h3⟩ := htup
    exact fresh t htb ⟨o, h1, fun es ep q => by rw [h3] at q; cases q⟩
  have notTab : ∀ b, sm.heap.get? b = none → b ∉ tabs := fun b hb q => by
    obtain ⟨o, ho⟩ := Option.isSome_iff_exists.mp (F.lib.tab b q)
    have := eff.live b o ho
    rw [hb] at this; cases this
  have notK : ∀ b, sm.heap.get? b = none → b ∉ K := fun b hb q => by have := hK b q; rw [hb] at this; cases this
  refine fly_note hfr hf hfly fun h₄ x₄ u₄ => fly_flight (f := none) x₄ fun h₅ x₅ u₅ => ?_
  have up₅ : sm.heap.UpToSlots h₅ := (hup.trans u₄).trans u₅
  have F₅ : c.F μ ν' { sm with heap := h₅ } := FD.landed F eff hX hL hN (stayOf x₅.stays) up₅
  refine wpAny_handleBy_builtin_as (X := "RuntimeError") (T := "RuntimeError") (b := true) PySem.F.isExc_RuntimeError PySem.F.notTuple_RuntimeError (by rw [isSubtype_type]; kernel_rfl) ?_
  refine wpAny_mono ((Ev.builtin (c := { c with A := c.A.mark (some (.ref e)) }) (μ := μ) (ν := ν') (pos := np) ⟨S.h, S.G, S.B⟩ Boot.«RuntimeError» hx hv) _ _ (F₅.withA _)) (fun v s₆ h₆ => ?_) fun _ _ q => q
  obtain ⟨h6, tk6, rfl, k6⟩ := h₆.1
  have x₆ := x₅.keeps (h' := h6) k6
  have up₆ := up₅.trans (Heap.UpToSlots.of_keeps k6)
  refine ⟨by simpa [Rep] using h₆.2, ?_, ?_⟩
  · obtain ⟨oe, _, _, _, _, r1, r2, _⟩ := x₆.rec_
    exact ⟨oe, r1, r2⟩
  rw [if_pos rfl]
  refine fly_flight (f := none) x₆ fun h₇ x₇ u₇ => ?_
  have up₇ : sm.heap.UpToSlots h₇ := up₆.trans u₇
  have F₇ : c.F μ ν' { sm with heap := h₇, toks := tk6 } := FD.landed F eff hX hL hN (stayOf x₇.stays) up₇
  have G₇ := (F₇.rebase O).withA (c.A.mark (some (.ref e)))
  obtain ⟨oe, vs, T, oT, ts, r1, r2, r3, r4, r5, r6, _⟩ := x₇.rec_
  have tup₇ : h₇.TupAt t [.str text u] := by
    have h1 : h'.UpToSlots h₇ := ((Heap.UpToSlots.trans (h₂ := h₄) u₄ u₅).trans (Heap.UpToSlots.of_keeps k6)).trans u₇
    exact htup.of_slots h1
  obtain ⟨ot, kt, q1, q2, q3⟩ := tup₇
  have eh : (hideAll h₇ K).get? e = some oe := hideAll_get _ r1 (notK e e0)
  refine FD.store (c := { c with A := c.A.mark (some (.ref e)), hL := hideAll h₇ K }) (d := .val (.ref e)) G₇ (Or.inl hloc) rfl fun s₈ G₈ _ => ?_
  refine wpAny_mono (body (hideAll h₇ K) (HL.rebase S.h F₇ O) ⟨rfl, ⟨oe, vs, eh, r3, r6⟩, notTab e e0⟩ ⟨oe, vs, eh, r2, r3, r4⟩ ⟨ot, kt, hideAll_get _ q1 (notK t t0), q2, q3⟩ (notTab t t0) s₈ G₈) (fun f s₉ h₉ => h₉) fun _ _ q => q.elim
end
end Mine
end
section
open PySem PySem.W PyProof.Rows
set_option autoImplicit false
set_option maxRecDepth 100000
namespace Mine
section
variable {c : Cx} {μ : Vars} {ν : Muts} {P : Flow → Shared → Prop} {E : Value → Shared → Prop} {rest : List Stmt}

/-- xs.extend(e), as a statement; e a new list -/
theorem Ex.extend {o e : Expr} {apos pos spos : Pos} {a : Addr} {l out : List D} (ho : Ev c μ ν o (.val (.ref a))) (hν : ν a = some l) (own : ∀ s, c.F μ ν s → c.X a ∨ c.s₀.heap.get? a = none) (he : EvNew c μ ν e out) (hsz : l.length + out.length ≤ 16777216)
    (hr : Ex c μ (updM ν a (l ++ out)) rest P E) (hi : interactive c.env = false := by rfl) (hs : swapsWith (.Call (.Attribute o "extend" apos) [e] [] pos) none spos.line c.env = pure false := by rfl)
    (hbase : attributeBase o "extend" c.env (eval o c.env) = eval o c.env := by rfl) (hline : (apos.endLine == pos.line) = true := by rfl)
    (htrees : backTo pos (starEach [e] c.env) = [(false, eval e c.env)] := by rfl) : Ex c μ ν (.Expr (.Call (.Attribute o "extend" apos) [e] [] pos) spos :: rest) P E := by
  refine Ex.cons fun s F => wpAny_Expr ?_ hi hs
  refine wpAny_Call_method1_late hbase hline htrees (wpAny_mono (ho s E F) (fun v s₁ h₁ => ?_) fun _ _ e => e)
  have F1 := F.keeps h₁.1
  have hv := h₁.2
  simp only [Rep] at hv
  subst hv
  obtain ⟨_, vs, hp, _⟩ := F1.muts a l hν
  obtain ⟨n, hp'⟩ := id hp
  refine ⟨"list", "list.extend", PySem.F.plainAttrs_list, PySem.F.slot_list_extend, PySem.F.type_list_extend, hp.isList.typeIs, fun a e => by cases e; exact ⟨_, hp', rfl⟩, ?_⟩
  refine Calls.callWith_builtin rfl (Calls.evalArgs_plain (Calls.spliced_cons (wpAny_mono (he s₁ E F1) (fun y s₂ h₂ => Calls.spliced_nil ?_) fun _ _ e => e)))
  obtain ⟨b, us, rfl, k2, hb, ⟨n2, hb2⟩, hr2⟩ := h₂
  have F2 := F1.keeps k2
  obtain ⟨_, vs2, ⟨n3, hp2⟩, hl2⟩ := F2.muts a l hν
  have e1 : vs2.size = l.length := by rw [← hl2.length]; simp
  have e2 : us.size = out.length := by rw [← hr2.length]; simp
  have hsz' : vs2.size + us.size ≤ sizeLine := by rw [e1, e2, sizeLine_eq]; exact hsz
  refine call_meets PySem.F.slot_list_extend ⟨_, hp2, rfl⟩ PySem.F.entry_list_extend (PySem.F.args_list_extend_2 _ _) (AutoSeq1.list_extend_list_list_0 a vs2 n3 b us n2 (extend_door hsz') (by omega) (by omega)) ⟨hp2, hb2, ?_⟩
  have ho' : (s₂.heap.update a (Obj.mapSeq fun x => x ++ us)).get? a = some { cls := .type "list", data := .seq (vs2 ++ us) (if (vs2 ++ us).size == vs2.size then n3 else n3 + 1) } := by
    rw [Heap.get?_update_self _ hp2 (by rw [mapSeq_app]; rfl), mapSeq_app]
  refine hr _ (F2.mutate (tk := s₂.toks) hν (own _ F1) (vs' := vs2 ++ us) ⟨_, ho'⟩ (Heap.SameBut.update ..) ?_)
  · have : Reps (mask c.H ν s₂.heap) out us.toList := Reps.mono mask_updM_le _ _ hr2
    simpa using hl2.append this

/-- a known list becomes data -/
theorem FD.recast {s : Shared} {x : Str} {a : Addr} {l : List D} {ν' : Muts} (F : c.F μ ν s) (hx : μ x = some (.val (.ref a))) (h : ν a = some l) (h' : ν' a = none) (hle : ∀ b k, ν' b = some k → ν b = some k) (hd : ∀ b, c.N b → (ν' b).isSome = true) : c.F (upd μ x (.list l)) ν' s := by
  have G := F.forget hle hd
  have hr := F.asData hle h h' (F.mutH a (by rw [h]; rfl))
  exact {
    same := G.same
    keep := G.keep
    live := G.live
    lib := G.lib
    fn := G.fn
    hid := G.hid
    hidL := G.hidL
    mutH := G.mutH
    froz := G.froz
    frozM := G.frozM
    dom := G.dom
    newM := G.newM
    freshL := G.freshL
    freshC := G.freshC
    apart := G.apart
    vars := by
      obtain ⟨m, cm, hn, hc, hv⟩ := G.vars
      refine ⟨m, cm, hn, hc, fun y d e => ?_⟩
      by_cases hy : y = x
      · subst hy
        simp only [upd, if_true] at e; cases e
        obtain ⟨v, hr', hw⟩ := hv y _ hx
        simp only [Rep] at hr'
        subst hr'
        exact ⟨_, hr, hw⟩
      · simp only [upd, hy, if_false] at e
        exact hv y d e
    muts := G.muts }
theorem Ex.recast {x : Str} {a : Addr} {l : List D} {ν' : Muts} {b : List Stmt} (hx : μ x = some (.val (.ref a))) (h : ν a = some l) (h' : ν' a = none) (hle : ∀ b k, ν' b = some k → ν b = some k) (hd : ∀ b, c.N b → (ν' b).isSome = true)
    (hr : Ex c (upd μ x (.list l)) ν' b P E) : Ex c μ ν b P E := fun s F => hr s (F.recast hx h h' hle hd)
end

/-- a lambda, as an expression -/
theorem FD.lamExpr {P : Params} {c : Cx} {μ : Vars} {ν : Muts} {s : Shared} {E : Value → Shared → Prop} {lpos : Pos} {params : Arguments} {body : Expr} {scope : Scope} {t cd : Addr} {ps : Array Value} {Q : Value → Shared → Prop} (F : c.F μ ν s) (h : HL P c.hL) (hq : (cd, t) ∈ heads) (hcode : c.env.code = .ref cd) (hX : c.X t)
    (hg : c.g t = some (tabObj ps)) (hts : TriplesOk ps.toList) (hnf : codeAmong lpos ps.toList = none) (hge : c.env.globals = mainGlobals) (hall : (scope.names.all fun x => x.2 != .free || (c.env.cells.lookup x.1).isSome) = true)
    (hQ : ∀ pm f c' ctv s', FD (c.grown t (ps ++ #[rawInt lpos.line, rawInt lpos.col, .ref c'])) μ ν s' → s.heap.get? f = none → s.heap.get? c' = none → s'.heap.get? f = some (kla_obj "<lambda>" (c.env.qual ++ "<lambda>") params body scope (closureOf c.env.cells scope.names []) pm c' ctv) →
      s'.heap.CodeRec (.ref c') (c.env.qual ++ "<lambda>") → (∀ b o, b ≠ t → s.heap.get? b = some o → s'.heap.get? b = some o) → Q (.ref f) s')
    (hdef : defaultsOf params c.env = ([], []) := by rfl) : wpAny c.M c.A (eval (.Lambda params body scope lpos) c.env) Q E s := by
  obtain ⟨mg, hmg, hb⟩ := h.bm
  have k := F.lib.get
  have ht : t ∈ tabs := (tabs_of_heads _ hq).1
  have hgP : mainGlobals ≠ t := (tabs_of_heads _ hq).2
  refine kla_eval hdef (kla_makeFunction (mg := mg) (closureFor_eq hall) hge (hb _ k t ht).1 hcode (h.head hq _ k) (F.froz t _ hg).1 hts hnf hgP (hb _ k t ht).2 fun c' ctv h' tk hx hsz hlt hrec htb => ?_)
  have F1 := F.grow (tk := tk) ht hX hg hx htb
  have F2 := F1.keeps (s' := { s with heap := h'.push (kla_obj "<lambda>" (c.env.qual ++ "<lambda>") params body scope (closureOf c.env.cells scope.names []) ((mg "__name__").getD .none) c' ctv), toks := tk }) ⟨_, _, rfl, fun _ _ e => Heap.get?_push_of_some _ e⟩
  refine hQ _ h'.objs.size c' ctv _ F2 (fresh_size (Nat.le_of_lt (Nat.lt_of_le_of_lt hsz hlt))) (fresh_size hsz) (Heap.get?_push_size _ rfl) ?_ fun b o hb e => Heap.get?_push_of_some _ (hx b o hb e)
  obtain ⟨c₂, oc, vs, tt, e, hoc, r⟩ := hrec
  cases e
  exact ⟨c', oc, vs, tt, rfl, Heap.get?_push_of_some _ hoc, r⟩
end Mine
end
section
open PySem PySem.W PyProof.Rows
set_option autoImplicit false
set_option maxRecDepth 100000
set_option maxHeartbeats 1000000
namespace Mine

/-- statements, as a thing that does not unfold -/
structure ExS (c : Cx) (μ : Vars) (ν : Muts) (b : List Stmt) (P : Flow → Shared → Prop) (E : Value → Shared → Prop) : Prop where
  go : Ex c μ ν b P E

section
variable {c : Cx} {μ : Vars} {ν : Muts} {P : Flow → Shared → Prop} {E : Value → Shared → Prop} {rest : List Stmt}
theorem ExS.assign {x : Str} {p pos : Pos} {e : Expr} {d : D} (he : Ev c μ ν e d) (hk : Own c x) (hr : ExS c (upd μ x d) ν rest P E)
    (hs : swapsWith e (some (.Name x p)) pos.line c.env = pure false := by rfl) : ExS c μ ν (.Assign [.Name x p] e pos :: rest) P E := ⟨Ex.assign he hk hr.go hs⟩
theorem ExS.assignM {x : Str} {p pos : Pos} {e : Expr} {Q : Muts → D → Prop} (he : EvM c μ ν e Q) (hk : Own c x) (hr : ∀ ν' d, Q ν' d → ExS c (upd μ x d) ν' rest P E)
    (hs : swapsWith e (some (.Name x p)) pos.line c.env = pure false := by rfl) : ExS c μ ν (.Assign [.Name x p] e pos :: rest) P E := ⟨Ex.assignM he hk (fun ν' d q => (hr ν' d q).go) hs⟩
theorem ExS.comp {elt target iter : Expr} {ifs : List Expr} {gs : List Comprehension} {y : Str} {py : Pos} {scope : Scope} {pos spos : Pos} {out : List D}
    (h : CompTo c μ ν iter scope (.ListComp elt (⟨target, iter, ifs, 0⟩ :: gs) scope pos) out) (hok : compOk scope c.env = true) (hy : Own c y)
    (hr : ExS c (upd μ y (.list out)) ν rest P E)
    (hsw : swapsWith (.ListComp elt (⟨target, iter, ifs, 0⟩ :: gs) scope pos) (some (.Name y py)) spos.line c.env = pure true := by rfl)
    (hs : ∀ v, foldedSetIterable iter c.env v = pure v := by intro _; rfl) :
    ExS c μ ν (.Assign [.Name y py] (.ListComp elt (⟨target, iter, ifs, 0⟩ :: gs) scope pos) spos :: rest) P E := ⟨h.ex hok hy hr.go hsw hs⟩
theorem ExS.forLoop {x : Str} {px pos : Pos} {iter : Expr} {body orelse : List Stmt} {ds : List D} (J : Nat → Vars → Muts → Prop) (B : Vars → Muts → Prop)
    (hi : EvI c μ ν iter ds) (hx : Own c x) (h0 : J 0 μ ν)
    (turn : ∀ g i d μ' ν', ds[i]? = some d → J i μ' ν' → ExS { c with g := g } (upd μ' x d) ν' body (LoopP { c with g := g } (J (i + 1)) B P) (fun _ _ => False))
    (brk : ∀ μ' ν', B μ' ν' → ExS c μ' ν' rest P E)
    (fin : ∀ μ' ν', J ds.length μ' ν' → ExS c μ' ν' orelse (thenP c rest P E) (fun _ _ => False))
    (hs : ∀ v, foldedSetIterable iter c.env v = pure v := by intro _; rfl) :
    ExS c μ ν (.For (.Name x px) iter body orelse pos :: rest) P E :=
  ⟨Ex.forLoop J B hi hx h0 (fun g i d μ' ν' h j => (turn g i d μ' ν' h j).go) (fun μ' ν' b => (brk μ' ν' b).go) (fun μ' ν' j => (fin μ' ν' j).go) hs⟩
/-- x = e, where the frame turns while e is worked out -/
theorem ExS.assignX {x : Str} {p pos : Pos} {e : Expr} (h : ∀ s, c.F μ ν s → wpAny c.M c.A (eval e c.env) (fun v s₁ => wpAny c.M c.A (storeName c.env x v) (fun _ => thenP c rest P E .next) E s₁) E s)
    (hs : swapsWith e (some (.Name x p)) pos.line c.env = pure false := by rfl) : ExS c μ ν (.Assign [.Name x p] e pos :: rest) P E := ⟨Ex.cons fun s F => wpAny_Assign_Name (h s F) hs⟩
theorem ExS.end (h : ExS c μ ν rest P E) : ExS c μ ν [] (thenP c rest P E) (fun _ _ => False) := ⟨Ex.nil fun s F => h.go s F⟩
theorem ExS.recast {x : Str} {a : Addr} {l : List D} {ν' : Muts} {b : List Stmt} (hx : μ x = some (.val (.ref a))) (h : ν a = some l) (h' : ν' a = none) (hle : ∀ b k, ν' b = some k → ν b = some k) (hd : ∀ b, c.N b → (ν' b).isSome = true)
    (hr : ExS c (upd μ x (.list l)) ν' b P E) : ExS c μ ν b P E := ⟨Ex.recast hx h h' hle hd hr.go⟩
theorem Std.withG {P : Params} (S : Std P c) (g : View) : Std P { c with g := g } := ⟨S.h, S.G, S.B⟩
end

theorem pick_map {α β : Type} (f : α → β) (xs : List α) (lo hi st : Option Int) : pick (xs.map f) lo hi st = (pick xs lo hi st).map f := by
  unfold pick
  simp only [List.length_map, List.getElem?_map, List.map_filterMap]

/-- the tables of inner code, as they stand -/
def gT (p1 p2 p3 : Array Value) : View := fun b => if b = 122 then some (tabObj p1) else if b = 98 then some (tabObj p2) else if b = 143 then some (tabObj p3) else none
/-- the law's frame -/
noncomputable def lcx (prog : Program) (w : World) (A : Around) (hL : Heap) (P : Params) (s : Shared) (g : View) : Cx :=
  ⟨prog, w, A, hL, s, (· ∈ tabs), fun _ => False, g, callEnvC (fdAt P 146) s.heap.objs.size 146, fun _ => true, fun b => (noMuts b).isSome = true⟩

/-- a deed, as one of its number -/
def deedOf (x : Int) : Nat × Nat × Nat := ((x % 12).toNat, ((x % 12 + 1 + x / 12 % 11) % 12).toNat, (x / 132 % 256).toNat)
structure GoodDeed (d : Nat × Nat × Nat) : Prop where
  one : d.1 < 12
  two : d.2.1 < 12
  ne : d.1 ≠ d.2.1
  octet : d.2.2 < 256
theorem good_deed (x : Int) : GoodDeed (deedOf x) := by
  unfold deedOf
  exact ⟨by dsimp only; omega, by dsimp only; omega, by dsimp only; omega, by dsimp only; omega⟩
theorem nt_of {x : Int} (h : 0 ≤ x) : D.int x = nt x.toNat := by rw [nt, Int.toNat_of_nonneg h]
theorem deed_dl (x : Int) : D.list [.int (x % 12), .int ((x % 12 + 1 + x / 12 % 11) % 12), .int (x / 132 % 256)] = dl (deedOf x) := by
  rw [nt_of (by omega : 0 ≤ x % 12), nt_of (by omega : 0 ≤ (x % 12 + 1 + x / 12 % 11) % 12), nt_of (by omega : 0 ≤ x / 132 % 256)]
  rfl

abbrev Deeds := List (Nat × Nat × Nat)
def deedRow (d : Nat × Nat × Nat) : List Nat := [d.1, d.2.1, d.2.2]
def modeRow (mode : Nat) : List Nat := [mode / 65536, mode / 256 % 256, mode % 256]
def itemsOf (deeds : Deeds) (logs : List (List Nat)) (mode : Nat) : List (List Nat) := deeds.map deedRow ++ logs ++ [modeRow mode]
def framed (items : List (List Nat)) : List Nat := items.flatMap fun l => l.length :: l
def octetsOf (deeds : Deeds) (logs : List (List Nat)) (mode : Nat) : List Nat := deeds.length :: framed (itemsOf deeds logs mode)
def logsIn (deeds : Deeds) (bends : List Int) : List (List Nat) := bends.foldl bend (logsOf deeds)

/-- what the law has read of its script -/
structure Read (deeds : Deeds) (bends : List Int) (mode : Nat) (μ : Vars) : Prop where
  hmany : deeds.length ≤ 8
  good : ∀ d ∈ deeds, GoodDeed d
  hbends : bends.length = 3
  hmode : mode < 262144
  vmany : μ "many" = some (nt deeds.length)
  vdeeds : μ "deeds" = some (.list (deeds.map dl))
  vlogs : μ "logs" = some (nll (logsIn deeds bends))
  vmode : μ "mode" = some (nt mode)

theorem Read.stay {deeds : Deeds} {bends : List Int} {mode : Nat} {μ μ' : Vars} (R : Read deeds bends mode μ) (h : ∀ x ∈ ([("many" : Str), "deeds", "logs", "mode"]), μ' x = μ x) : Read deeds bends mode μ' :=
  ⟨R.hmany, R.good, R.hbends, R.hmode, (h _ (by simp)).trans R.vmany, (h _ (by simp)).trans R.vdeeds, (h _ (by simp)).trans R.vlogs, (h _ (by simp)).trans R.vmode⟩

variable {P : Params} {prog : Program} {w : World} {hL : Heap} {A : Around} {s : Shared} {g : View}
theorem lcx_std (h : HL P hL) : Std P (lcx prog w A hL P s g) := ⟨h, by kernel_rfl, by kernel_rfl⟩
theorem lown (x : Str) (h : ([x].all fun y => (fdAt P 146).scope.names.lookup y == some .local || (fdAt P 146).scope.names.lookup y == some .cell) = true := by kernel_rfl) : Own (lcx prog w A hL P s g) x := by
  rcases kinds_of_def h x (by simp) with h | h
  · exact Or.inl h
  · exact Or.inr ⟨h.1, h.2 _, rfl⟩
/-- what is to be true at the law's end -/
structure Done (s s' : Shared) : Prop where
  same : ∃ h tk, s' = { s with heap := h, toks := tk }
  keep : ∀ b o, b ∉ tabs → s.heap.get? b = some o → s'.heap.get? b = some o
  tab : ∀ t ∈ tabs, ∃ ps, s'.heap.get? t = some (tabObj ps)
def LawEnd (s : Shared) : Flow → Shared → Prop := fun f s' => f = .ret (.bool true) ∧ Done s s'
theorem gT_isField {p1 p2 p3 : Array Value} {b : Addr} {o : Obj} (e : gT p1 p2 p3 b = some o) : Obj.isFields o = true := by
  unfold gT at e
  split at e
  · cases e; rfl
  · split at e
    · cases e; rfl
    · split at e
      · cases e; rfl
      · cases e
theorem FD.done {c : Cx} {μ : Vars} {ν : Muts} {s' : Shared} {p1 p2 p3 : Array Value} (F : FD c μ ν s') (hX : ∀ b, b ∉ tabs → ¬ c.X b) (hg : c.g = gT p1 p2 p3) : Done c.s₀ s' where
  same := F.same
  keep := fun b o hb e => F.keep b o (hX b hb) e
  tab := fun t ht => by
    simp only [tabs, List.mem_cons, List.not_mem_nil, or_false] at ht
    rcases ht with rfl | rfl | rfl
    · exact ⟨p1, (F.froz 122 _ (by rw [hg]; rfl)).1⟩
    · exact ⟨p2, (F.froz 98 _ (by rw [hg]; rfl)).1⟩
    · exact ⟨p3, (F.froz 143 _ (by rw [hg]; rfl)).1⟩
/-- records are known anew -/
theorem FD.setF {c : Cx} {μ : Vars} {ν : Muts} {s : Shared} (F : c.F μ ν s) (g : View) (h1 : ∀ a o, g a = some o → s.heap.get? a = some o ∧ Obj.isFields o = true) : FD { c with g := g } μ ν s :=
  F.setG g (fun a o e => ⟨(h1 a o e).1, Or.inr (h1 a o e).2⟩) fun a l e => by
    cases q : g a with
    | none => rfl
    | some o =>
      obtain ⟨k1, k2⟩ := h1 a o q
      obtain ⟨_, vs, ⟨n, hp⟩, _⟩ := F.muts a l e
      rw [hp] at k1; cases k1; cases k2
end Mine
end
section
open PySem PySem.W PyProof.Rows
set_option autoImplicit false
set_option maxRecDepth 100000
set_option maxHeartbeats 1000000
namespace Mine
variable {P : Params} {prog : Program} {w : World} {hL : Heap}

def noVars : Vars := fun _ => none
theorem law_A (h : HL P hL) (A : Around) (room : Room A 10) (s : Shared) (script : List Int) (hscript : script.length ≤ 63) {PP : Flow → Shared → Prop} {E : Value → Shared → Prop}
    (hr : ∀ μ deeds bends mode a, Read deeds bends mode μ → μ "octets" = some (.val (.ref a)) →
      ExS (lcx prog w A hL P s (gT #[] #[] #[])) μ (updM noMuts a ((octetsOf deeds (logsIn deeds bends) mode).map nt)) ((bodyAt P 146).drop 8) PP E) :
    ExS (lcx prog w A hL P s (gT #[] #[] #[])) (ofParams ["script"] [li script]) noMuts (bodyAt P 146) PP E := by
  have S : Std P (lcx prog w A hL P s (gT #[] #[] #[])) := lcx_std h
  generalize hbase : ([7, 28592, 23775, 28013, 23808, 23859, 11987, 5975, 13070, 20, 0, 1, 33188] : List Nat) = base
  have hbl : base.length = 13 := by subst hbase; rfl
  have hh : (lcx prog w A hL P s (gT #[] #[] #[])).A.handled = none := room.handled
  refine ExS.assign (d := nl base) ?_ (lown _) ?_
  · subst hbase
    refine Ev.list ?_
    iterate 13 (refine EvL.cons ?_ ?_; exact Ev.nat _)
    exact EvL.nil
  let cell : Nat → Int := fun k => ((base.getD k 0 : Nat) : Int) + (pick script (some (k : Int)) (some 60) (some 13)).sum
  refine ExS.comp (out := ((List.range 13).map cell).map D.int) (CompTo.of_eq (CompTo.one nt (List.range 13) (fun _ => true) (fun k => D.int (cell k)) (EvI.rangeN (Ev.builtin S (by kernel_rfl)) (Ev.nat 13) hh (by decide)) (by kernel_rfl) (by decide) (by simp) (fun s C H N g a ha => EvT.nil) (fun s1 C H N g k hk _ => ?_)) (by simp [filter_tt])) (by kernel_rfl) (lown _) ?_
  · have hk' : k < 13 := List.mem_range.mp hk
    refine Ev.bin (Ev.itemN (d := nt (base.getD k 0)) (Ev.name rfl) (Ev.name rfl) (LD.data _) ?_ (by simp [hbl])) (Ev.callB (Ev.builtin (S.comp _ s1 C H N g) (by kernel_rfl)) (EvL.cons (Ev.of_eq (Ev.slice (Ev.name (d := li script) rfl) (LD.data _) (EvP.some (Ev.name (d := nt k) rfl)) (EvP.some Ev.int) (EvP.some Ev.int) (by decide) (by simp; omega)) (by rw [pick_map])) EvL.nil) (call_sum (ns := pick script (some (k : Int)) (some 60) (some 13)) (LD.data _) hh)) op_add
    rw [List.getElem?_map, List.getD_eq_getElem?_getD, List.getElem?_eq_getElem (by omega)]
    rfl
  generalize hcs : (List.range 13).map cell = cs
  have hcl : cs.length = 13 := by rw [← hcs]; simp
  have item : ∀ k, k < 13 → ∃ x, cs[k]? = some x := fun k hk => ⟨cs[k], List.getElem?_eq_getElem (by omega)⟩
  obtain ⟨x0, hx0⟩ := item 0 (by decide)
  obtain ⟨x12, hx12⟩ := item 12 (by decide)
  clear item hcs
  refine ExS.assign (d := nt (x0 % 9).toNat) (Ev.of_eq (Ev.bin (Ev.item (k := 0) (d := .int x0) (Ev.name rfl) Ev.int (LD.data _) (by decide) (by rw [List.getElem?_map]; simp [hx0]) (by simp [hcl])) Ev.int (op_mod (by decide))) (nt_of (by omega))) (lown _) ?_
  generalize hm : (x0 % 9).toNat = m
  have hm8 : m ≤ 8 := by omega
  generalize hxs : (cs.take (1 + m)).drop 1 = xs
  have hxl : xs.length = m := by rw [← hxs, List.length_drop, List.length_take, hcl]; omega
  obtain ⟨o110, ho110, hfd110⟩ := (deed_at h).obj
  refine ExS.assign (d := .list ((xs.map deedOf).map dl)) (CompTo.ev (CompTo.of_eq (CompTo.one D.int xs (fun _ => true) (fun x => dl (deedOf x)) (EvI.list (Ev.of_eq (Ev.run (l := cs) (i := 1) (j := 1 + m) (Ev.name rfl) (LD.data _) (Ev.nat 1) (Ev.bin (Ev.nat 1) (Ev.name rfl) op_addN) (by omega)) (by rw [hxs])) hh) (by kernel_rfl) (by decide) (by omega) (fun s C H N g a ha => EvT.nil)
    (fun s C H N g x hx _ => ?_)) (by rw [filter_tt, List.map_map]; rfl)) (by kernel_rfl)) (lown _) ?_
  · exact Ev.of_eq (Ev.callF (Ev.global (S.comp _ s C H N g)) ho110 hfd110 (by decide) (EvL.cons (Ev.name rfl) EvL.nil) (CallIs.ofPure (room.le (by decide)) (deed_pure h x))) (deed_dl x)
  generalize hb : (cs.take 12).drop 9 = bends
  have hbn : bends.length = 3 := by rw [← hb, List.length_drop, List.length_take, hcl]; omega
  obtain ⟨o115, ho115, hfd115⟩ := (logs_at h).obj
  generalize hds : xs.map deedOf = deeds
  have hdl : deeds.length = m := by rw [← hds, List.length_map, hxl]
  have hgood : ∀ d ∈ deeds, GoodDeed d := by
    subst hds
    intro d hd
    obtain ⟨x, _, rfl⟩ := List.mem_map.mp hd
    exact good_deed x
  refine ExS.assign (d := nll (logsIn deeds bends)) (Ev.callF (Ev.global S) ho115 hfd115 (by decide) (EvL.cons (Ev.name rfl) (EvL.cons (Ev.of_eq (Ev.run (l := cs) (i := 9) (j := 12) (Ev.name rfl) (LD.data _) (Ev.nat 9) (Ev.nat 12) (by omega)) (by rw [hb])) EvL.nil)) (CallIs.ofPure (room.le (by decide)) (logs_pure h deeds (by omega) bends (by omega)))) (lown _) ?_
  refine ExS.assign (d := nt (x12 % 262144).toNat) (Ev.of_eq (Ev.bin (Ev.item (k := 12) (d := .int x12) (Ev.name rfl) Ev.int (LD.data _) (by decide) (by rw [List.getElem?_map]; simp [hx12]) (by simp [hcl])) Ev.int (op_mod (by decide))) (nt_of (by omega))) (lown _) ?_
  generalize hmo : (x12 % 262144).toNat = mode
  have hmode : mode < 262144 := by omega
  refine ExS.assignM (EvNew.evM (EvNew.list (ds := [nt m]) (EvL.cons (Ev.name rfl) EvL.nil))) (lown _) ?_
  rintro ν₁ d₁ ⟨a, -, rfl, rfl⟩
  have hlogs : (logsIn deeds bends).length = 12 := by rw [logsIn, bends_len]; simp [logsOf]
  have hsm : ∀ l ∈ logsIn deeds bends, l.length ≤ 8 := bends_small bends fun l hl => Nat.le_trans (logsOf_small deeds l hl) (by omega)
  have hR : ∀ μ' : Vars, (∀ x ∈ ([("many" : Str), "deeds", "logs", "mode"]), μ' x = upd (upd (upd (upd noVars "many" (nt m)) "deeds" (.list (deeds.map dl))) "logs" (nll (logsIn deeds bends))) "mode" (nt mode) x) → Read deeds bends mode μ' := fun μ' h => by
    refine ⟨by omega, hgood, hbn, hmode, ?_, ?_, ?_, ?_⟩
    · rw [h _ (by simp), ← hdl]; rfl
    · rw [h _ (by simp)]; rfl
    · rw [h _ (by simp)]; rfl
    · rw [h _ (by simp)]; rfl
  generalize hL0 : logsIn deeds bends = L at *
  have hit : (itemsOf deeds L mode).map nl = deeds.map dl ++ L.map nl ++ [nl (modeRow mode)] := by
    simp [itemsOf, deedRow]
  have hil : (itemsOf deeds L mode).length = m + 12 + 1 := by simp [itemsOf, hdl, hlogs]
  have h8 : ∀ l ∈ itemsOf deeds L mode, l.length ≤ 8 := fun l hl => by
    simp only [itemsOf, List.mem_append, List.mem_map, List.mem_singleton] at hl
    rcases hl with (⟨d, _, rfl⟩ | hl) | rfl
    · simp [deedRow]
    · exact hsm l hl
    · simp [modeRow]
  refine ExS.forLoop (ds := (itemsOf deeds L mode).map nl) (fun i μ' ν' => (∀ x ∈ ([("many" : Str), "deeds", "logs", "mode", "octets"]), μ' x = upd (upd (upd (upd (upd noVars "many" (nt m)) "deeds" (.list (deeds.map dl))) "logs" (nll L)) "mode" (nt mode)) "octets" (.val (.ref a)) x) ∧ ν' = updM noMuts a ((m :: framed ((itemsOf deeds L mode).take i)).map nt)) (fun _ _ => False)
    (EvI.list (Ev.of_eq (Ev.bin (Ev.bin (Ev.name rfl) (Ev.name rfl) (op_cat (LD.data _) (LD.data _) (by simp; omega))) (Ev.list (ds := [nl (modeRow mode)]) (EvL.cons (Ev.list (EvL.cons (Ev.bin (Ev.name rfl) (Ev.nat 65536) (op_divN (by decide) (by decide))) (EvL.cons (Ev.bin (Ev.bin (Ev.name rfl) (Ev.nat 256) (op_divN (by decide) (by decide))) (Ev.nat 256) (op_modN (by decide))) (EvL.cons (Ev.bin (Ev.name rfl) (Ev.nat 256) (op_modN (by decide))) EvL.nil))) (by simp [modeRow])) EvL.nil)) (op_cat (LD.data _) (LD.data _) (by simp; omega))) (by rw [hit])) hh) (lown _) ⟨?_, rfl⟩ ?_ (fun _ _ q => q.elim) ?_
  · intro x hx
    simp only [List.mem_cons, List.not_mem_nil, or_false] at hx
    rcases hx with rfl | rfl | rfl | rfl | rfl <;> rfl
  · rintro g i d μ' ν' hd ⟨hμ, rfl⟩
    obtain ⟨l, hl, rfl⟩ := map_get hd
    have hll : l.length ≤ 8 := h8 l (List.mem_of_getElem? hl)
    have hfr : framed ((itemsOf deeds L mode).take (i + 1)) = framed ((itemsOf deeds L mode).take i) ++ (l.length :: l) := by
      rw [List.take_add_one, hl]; simp [framed]
    have hfl : (framed ((itemsOf deeds L mode).take i)).length ≤ 9 * (m + 13) := by
      unfold framed
      rw [List.length_flatMap]
      refine Nat.le_trans (sum_le (B := 9) fun l hl => ?_) ?_
      · have := h8 l (List.mem_of_mem_take hl)
        simp; omega
      · rw [List.length_take, hil]; omega
    have hoct : μ' "octets" = some (.val (.ref a)) := (hμ _ (by simp)).trans rfl
    refine ⟨Ex.extend (l := (m :: framed ((itemsOf deeds L mode).take i)).map nt) (out := [nt l.length] ++ l.map nt) (Ev.name hoct) (if_pos rfl) (fun s' F => ?_) (EvNew.cat (Ev.list (EvL.cons (Ev.callB (Ev.builtin (S.withG g) (by kernel_rfl)) (EvL.cons (Ev.name (d := nl l) rfl) EvL.nil) (call_lenN (n := l.length) (LD.data _) (by simp) (by omega))) EvL.nil)) (Ev.name (d := nl l) rfl) (LD.data _) (LD.data _) (by simp; omega)) (by simp; omega) ?_⟩
    · exact Or.inr ((F.newM a (by simp [updM])).resolve_left (by intro q; cases q))
    · refine Ex.nil fun s' F' => ⟨_, _, ⟨fun x hx => ?_, ?_⟩, F'⟩
      · rw [← hμ x hx]
        exact if_neg (by rintro rfl; revert hx; decide)
      · rw [hfr]
        funext b
        unfold updM
        split <;> simp
  · rintro μ' ν' ⟨hμ, rfl⟩
    have q := hr μ' deeds bends mode a (hR μ' fun x hx => (hμ x (by revert hx; simp only [List.mem_cons, List.not_mem_nil, or_false]; rintro (h | h | h | h) <;> simp [h])).trans (if_neg (by rintro rfl; revert hx; decide))) ((hμ _ (by simp)).trans rfl)
    rw [hL0, octetsOf, hdl] at q
    rw [List.length_map, List.take_length]
    exact ExS.end q
end Mine
end
section
open PySem PySem.W PyProof.Rows
set_option autoImplicit false
set_option maxRecDepth 100000
set_option maxHeartbeats 1000000
namespace Mine
section
variable {c : Cx} {μ : Vars} {ν : Muts}
/-- a call of a def, whatever it brings -/
theorem eval_callF {x : Str} {p pos : Pos} {a : Addr} {o : Obj} {fd : FuncData} {e : Expr} {es : List Expr} {ds : List D} {Q : Value → Shared → Prop} {E : Value → Shared → Prop} {s : Shared} (F : c.F μ ν s) (hf : Ev c μ ν (.Name x p) (.val (.ref a)))
    (ho : c.hL.get? a = some o) (hfd : o.data = .func fd) (hat : a ∉ tabs) (ha : EvL c μ ν pos (e :: es) ds)
    (hc : ∀ s₂ vs, Kp s s₂ → Reps (mask c.H ν s₂.heap) ds vs → wpAny c.M c.A (call (.ref a) vs) Q E s₂)
    (he : starEach (e :: es) c.env = (false, eval e c.env) :: starEach es c.env := by rfl) :
    wpAny c.M c.A (eval (.Call (.Name x p) (e :: es) [] pos) c.env) Q E s := by
  refine wpAny_Call_NameR (wpAny_mono (hf s E F) (fun f s₁ h₁ => ?_) fun _ _ e => e)
  have hfe := h₁.2
  simp only [Rep] at hfe
  subst hfe
  have ha' := ha s₁ E (F.keeps h₁.1)
  rw [he] at ha' ⊢
  refine Calls.callWith_function (o := o) (fd := fd) (Calls.evalArgs_plain (wpAny_mono ha' (fun vs s₂ h₂ => ?_) fun _ _ e => e))
  have k := h₁.1.trans h₂.1
  exact ⟨⟨(F.keeps k).lib.get a o hat ho, hfd⟩, hc s₂ vs k h₂.2⟩

/-- all that is the frame's own -/
def ownK (c : Cx) (as : List Addr) : List Addr := c.env.locals :: ((c.env.cells.map (·.1)).filterMap fun n => c.env.cells.lookup n) ++ as
theorem ownK_mem {as : List Addr} {a : Addr} (h : a ∈ ownK c as) : a = c.env.locals ∨ (∃ n, c.env.cells.lookup n = some a) ∨ a ∈ as := by
  unfold ownK at h
  rcases List.mem_append.mp h with h | h
  · rcases List.mem_cons.mp h with h | h
    · exact Or.inl h
    · obtain ⟨n, _, h⟩ := List.mem_filterMap.mp h
      exact Or.inr (Or.inl ⟨n, h⟩)
  · exact Or.inr (Or.inr h)
theorem ownAll {s : Shared} {as : List Addr} (F : c.F μ ν s) (hst : ∀ n, c.st n = true) (hH : ∀ a, ¬ c.H a) (hν : ∀ a, (ν a).isSome = true ↔ a ∈ as) : OwnAll c ν (ownK c as) where
  loc := by simp [ownK]
  cells := fun n a h => by
    unfold ownK
    refine List.mem_append_left _ (List.mem_cons_of_mem _ (List.mem_filterMap.mpr ⟨n, List.mem_map.mpr ⟨(n, a), mem_of_lookup' h, rfl⟩, h⟩))
  muts := fun a h => List.mem_append_right _ ((hν a).mp h)
  hid := fun a h => absurd h (hH a)
  out := fun a h => by
    rcases ownK_mem h with rfl | ⟨n, h⟩ | h
    · exact F.freshL.1
    · exact (F.freshC n a (hst n) h).1
    · obtain ⟨l, e⟩ := Option.isSome_iff_exists.mp ((hν a).mpr h)
      exact (F.muts a l e).1
theorem ownK_live {s : Shared} {as : List Addr} (F : c.F μ ν s) (hν : ∀ a, a ∈ as → (ν a).isSome = true) : ∀ a ∈ ownK c as, (s.heap.get? a).isSome = true := fun a h => by
  obtain ⟨m, cm, hn, hc, _⟩ := F.vars
  rcases ownK_mem h with rfl | ⟨n, h⟩ | h
  · obtain ⟨o, _, _, e, _⟩ := hn; rw [e]; rfl
  · obtain ⟨o, e, _⟩ := hc n a h; rw [e]; rfl
  · obtain ⟨l, e⟩ := Option.isSome_iff_exists.mp (hν a h)
    obtain ⟨_, vs, ⟨n, hp⟩, _⟩ := F.muts a l e
    rw [hp]; rfl
/-- the frame has turned; the name is stored, the rest goes on -/
theorem store_on {c' : Cx} {x : Str} {d : D} {v : Value} {rest : List Stmt} {P : Flow → Shared → Prop} {E : Value → Shared → Prop} {s : Shared} (hM : c'.M = c.M) (hA : c'.A = c.A) (he : c'.env = c.env) (G : FD c' μ ν s) (hk : Own c' x) (hr : Rep (mask c'.H ν s.heap) d v)
    (h : ExS c' (upd μ x d) ν rest P E) : wpAny c.M c.A (storeName c.env x v) (fun _ => thenP c rest P E .next) E s := by
  rw [← he, ← hA, ← hM]
  refine FD.store G hk hr fun s' F' _ => ?_
  show wpAny c.M c.A (execs rest c.env) P E s'
  rw [← he, ← hA, ← hM]
  exact h.go s' F'
theorem hideAll_eq {h : Heap} {K : List Addr} {b : Addr} (hb : b ∉ K) : (hideAll h K).get? b = h.get? b := by
  cases e : h.get? b with
  | some o => exact hideAll_get _ e hb
  | none =>
    cases q : (hideAll h K).get? b with
    | none => rfl
    | some o => rw [of_hideAll _ q] at e; cases e
end

variable {P : Params} {prog : Program} {w : World} {hL : Heap}
/-- stream = _law_stream(bytes(octets)) -/
theorem law_stream (h : HL P hL) (A : Around) (room : Room A 10) (s : Shared) {octets : List Nat} (ho : ∀ n ∈ octets, n < 256) (hsz : octets.length ≤ 16777216) {μ : Vars} (hμ : μ "octets" = some (nl octets)) {PP : Flow → Shared → Prop} {E : Value → Shared → Prop}
    (hr : ∀ hL' a Lp ps, HL P hL' → StreamAt P hL' a octets Lp → ExS (lcx prog w A hL' P s (gT #[] ps #[])) (upd μ "stream" (.val (.ref a))) (updM noMuts Lp [nt 0]) ((bodyAt P 146).drop 9) PP E) :
    ExS (lcx prog w A hL P s (gT #[] #[] #[])) μ noMuts ((bodyAt P 146).drop 8) PP E := by
  obtain ⟨o103, ho103, hfd103⟩ := (stream_at h).obj
  have S : Std P (lcx prog w A hL P s (gT #[] #[] #[])) := lcx_std h
  have hh : (lcx prog w A hL P s (gT #[] #[] #[])).A.handled = none := room.handled
  refine ExS.assignX fun s₁ F => ?_
  refine eval_callF (ds := [bl octets]) F (Ev.global S) ho103 hfd103 (by decide) (EvL.cons (Ev.callT (Ev.builtin S (by kernel_rfl)) (EvL.cons (Ev.name hμ) EvL.nil) (call_bytes (LD.data _) ho hsz hh)) EvL.nil) fun s₂ vs k₂ r₂ => ?_
  have F₂ := F.keeps k₂
  refine wpAny_call (codeAny_mono (stream_made h octets A s₂ vs (fun _ => False) (room.le (by decide)) F₂.lib (fun _ q => q.elim) (fun _ q => q.elim) r₂ (F₂.froz 98 _ rfl).1) fun r s' hm => ?_)
  obtain ⟨a, Lp, bs, rfl, eff, ⟨ps, h98⟩, hLp, hbs, hS⟩ := hm
  have F₃ : FD (lcx prog w A hL P s noView) μ noMuts s₂ := FD.lessG (c := lcx prog w A hL P s noView) (g := gT #[] #[] #[]) F₂ (fun _ _ e => by cases e)
  have k98 : ∀ b o, b ≠ 98 → s₂.heap.get? b = some o → s'.heap.get? b = some o := fun b o hb e => eff.keep b o hb e
  have F₄ : FD (lcx prog w A hL P s (gT #[] ps #[])) μ _ s' := FD.setF (c := lcx prog w A hL P s noView) (F₃.back eff (fun b hb => by
    subst hb
    exact Or.inr ⟨by decide, (show _ ∈ tabs by decide), rfl, _, (F₂.froz 98 _ rfl).1, rfl⟩)) (gT #[] ps #[]) fun b o e => ⟨by
      by_cases hb : b = 98
      · subst hb; cases e; exact h98
      · refine k98 b o hb (F₂.froz b o ?_).1
        show gT #[] #[] #[] b = some o
        unfold gT at *
        rw [if_neg hb] at e ⊢
        exact e, gT_isField e⟩
  have hν : ∀ b, (updM noMuts Lp [nt 0] b).isSome = true ↔ b ∈ [Lp] := fun b => by
    unfold updM noMuts
    split <;> simp_all
  have O := ownAll (as := [Lp]) F₄ (fun _ => rfl) (fun _ q => q) hν
  have G := F₄.rebase O
  have h' := HL.rebase h F₄ O
  have hb' : ∀ b ∈ bs, b ∉ ownK (lcx prog w A hL P s (gT #[] ps #[])) [Lp] := fun b hb q => by
    rcases List.mem_append.mp q with q | q
    · have := ownK_live (c := lcx prog w A hL P s noView) (as := []) F₃ (fun _ q => by cases q) b (List.mem_append_left _ q)
      rw [(hbs b hb).1] at this; cases this
    · exact (hbs b hb).2 (by simpa using q)
  have hS' := hS _ h' fun b hb => hideAll_eq (hb' b hb)
  clear hS hb' O
  generalize hideAll s'.heap (ownK (lcx prog w A hL P s (gT #[] ps #[])) [Lp]) = hL2 at G h' hS'
  exact store_on (c' := lcx prog w A hL2 P s (gT #[] ps #[])) (d := .val (.ref a)) rfl rfl rfl G (lown _) rfl (hr _ a Lp ps h' hS')
end Mine
end
section
open PySem PySem.W PyProof.Rows
set_option autoImplicit false
set_option maxRecDepth 100000
set_option maxHeartbeats 1000000
namespace Mine
section
variable {c : Cx} {μ : Vars} {ν : Muts} {P : Flow → Shared → Prop} {E : Value → Shared → Prop} {rest : List Stmt}
theorem ExS.known {b : List Stmt} (h : (∀ a, (ν a).isSome = true → c.N a ∨ c.s₀.heap.get? a = none) → ExS c μ ν b P E) : ExS c μ ν b P E := ⟨fun s F => (h F.newM).go s F⟩
theorem ExS.compM {elt iter : Expr} {x y : Str} {px py : Pos} {ifs : List Expr} {scope : Scope} {pos spos : Pos} {QI : Muts → List D → Prop} (J : Muts → List D → Nat → Muts → List D → Prop)
    (hi : EvIM c μ ν iter QI) (hok : compOk scope c.env = true) (hx : scope.names.lookup x = some .local ∨ scope.names.lookup x = some .cell) (hy : Own c y)
    (hJ : ∀ ν₁ ds, QI ν₁ ds → ds.length < 16777216 ∧ J ν₁ ds 0 ν₁ [] ∧ (∀ i ν' out, J ν₁ ds i ν' out → out.length ≤ i) ∧ TurnOk c μ ν₁ x ifs elt scope (J ν₁ ds) ds)
    (hr : ∀ ν₁ ds ν' out a, QI ν₁ ds → J ν₁ ds ds.length ν' out → ν' a = none → ν₁ a = none → ExS c (upd μ y (.val (.ref a))) (updM ν' a out) rest P E)
    (hsw : swapsWith (.ListComp elt [⟨.Name x px, iter, ifs, 0⟩] scope pos) (some (.Name y py)) spos.line c.env = pure true := by rfl)
    (hs : ∀ v, foldedSetIterable iter c.env v = pure v := by intro _; rfl) :
    ExS c μ ν (.Assign [.Name y py] (.ListComp elt [⟨.Name x px, iter, ifs, 0⟩] scope pos) spos :: rest) P E :=
  ⟨Ex.assignCompM J hi hok hx hy hJ (fun ν₁ ds ν' out a q j h1 h2 => (hr ν₁ ds ν' out a q j h1 h2).go) hsw hs⟩

/-- range of something that changes known lists -/
theorem EvIM.range {e : Expr} {rp pos : Pos} {n : Nat} {ν1 : Muts} (hf : Ev c μ ν (.Name "range" rp) (.val (.type "range"))) (h : EvM c μ ν e (fun ν' d => ν' = ν1 ∧ d = nt n)) (hh : c.A.handled = none) (hn : n < 16777216)
    (he : starEach [e] c.env = [(false, eval e c.env)] := by rfl) : EvIM c μ ν (.Call (.Name "range" rp) [e] [] pos) (fun ν' ds => ν' = ν1 ∧ ds = (List.range n).map nt) := by
  intro s E F
  refine wpAny_Call_NameR (wpAny_mono (hf s E F) (fun f s₁ h₁ => ?_) fun _ _ e => e)
  have hfe := h₁.2
  simp only [Rep] at hfe
  subst hfe
  rw [he]
  refine PyProof.Rows.callWith_type (show (false || _) = false from rfl) (Calls.evalArgs_plain (Calls.spliced_cons (wpAny_mono (h s₁ E (F.keeps h₁.1)) (fun v s₂ h₂ => ?_) fun _ _ e => e)))
  obtain ⟨ν', d, ⟨rfl, rfl⟩, F₂, hv⟩ := h₂
  simp only [Rep] at hv
  obtain ⟨t, rfl⟩ := hv
  refine Calls.spliced_nil (call_range_1 ?_)
  refine wpAny_pyIter_range (IsRange.new ..) (small_one (by decide) (by decide) (by omega) (by omega)) ?_
  generalize hI : ({ s₂ with heap := s₂.heap.push { cls := Value.type "range", data := Data.fields #[Value.int 0 s₂.toks, Value.int n t, Value.int 1 (s₂.toks + 1)] }, toks := s₂.toks + 1 + 1 } : Shared) = s₃
  have k₃ : Kp s₂ s₃ := by subst hI; exact ⟨_, _, rfl, fun _ _ e => Heap.get?_push_of_some _ e⟩
  have hsz : Builtin.Range.rangeSize 0 n 1 = (n : Int) := by rw [rangeSize_one]; split <;> omega
  refine ⟨ν', _, s₂, s₃.heap.objs.size, [s₃.heap.objs.size], [s₃.heap.objs.size], fun i v => ∃ t, v = .int (0 + i * 1) t, fun i h => IsRangeIter h s₃.heap.objs.size (0 + (i : Nat) * 1) ((n : Int) - (i : Nat)) 1, ⟨rfl, rfl⟩, rfl, F₂, ?_⟩
  exact {
    walks := by rw [show ((List.range n).map nt).length = n by simp]; exact Walks.range hh _ 0 1 n
    st := by
      have e1 : (0 + ((0 : Nat) : Int) * 1) = 0 := by simp
      have e2 : ((n : Int) - ((0 : Nat) : Int)) = Builtin.Range.rangeSize 0 n 1 := by rw [hsz]; simp
      rw [e1, e2]
      exact Heap.get?_push_size _ rfl
    kp := k₃.trans ⟨_, _, rfl, fun _ _ e => Heap.get?_push_of_some _ e⟩
    fpOk := fun b hb => Or.inl hb
    wrOk := fun b hb => by
      simp only [List.mem_cons, List.not_mem_nil, or_false] at hb
      subst hb
      cases q : s₂.heap.get? s₃.heap.objs.size with
      | none => rfl
      | some o => exact absurd (Heap.lt_size (k₃.get _ _ q)) (Nat.lt_irrefl _)
    fields := fun i h st b hb => by
      simp only [List.mem_cons, List.not_mem_nil, or_false] at hb
      subst hb
      exact ⟨_, st, rfl⟩
    vals := fun i v d hv' hd => by
      obtain ⟨t', rfl⟩ := hv'
      obtain ⟨j, hj, rfl⟩ := map_get hd
      have := List.getElem?_range (n := n) (i := i)
      have hij : j = i := by
        rw [List.getElem?_eq_some_iff] at hj
        obtain ⟨_, e⟩ := hj
        rw [← e]; simp
      subst hij
      exact ⟨t', by simp⟩ }
end

/-- where the items lie in the stream -/
theorem framed_at {pre : List Nat} : ∀ (items : List (List Nat)) (i : Nat) (l : List Nat), items[i]? = some l →
    (pre ++ framed items)[pre.length + (framed (items.take i)).length]? = some l.length ∧ ((pre ++ framed items).drop (pre.length + (framed (items.take i)).length + 1)).take l.length = l ∧
      (framed (items.take (i + 1))).length = (framed (items.take i)).length + 1 + l.length
  | items, i, l, h => by
    have e : framed items = framed (items.take i) ++ ((l.length :: l) ++ framed (items.drop (i + 1))) := by
      have hi := (List.getElem?_eq_some_iff.mp h)
      obtain ⟨hlt, hl⟩ := hi
      conv => lhs; rw [← List.take_append_drop i items, List.drop_eq_getElem_cons hlt, hl]
      simp [framed]
    refine ⟨?_, ?_, ?_⟩
    · rw [e, ← List.append_assoc, List.getElem?_append_right (by simp)]
      simp
    · rw [e, ← List.append_assoc, List.drop_append, List.drop_eq_nil_of_le (by simp)]
      simp
    · rw [List.take_add_one, h]; simp [framed]; omega
end Mine
end
section
open PySem PySem.W PyProof.Rows
set_option autoImplicit false
set_option maxRecDepth 100000
set_option maxHeartbeats 1000000
namespace Mine
theorem updM_twice {ν : Muts} {a : Addr} {l k : List D} : updM (updM ν a l) a k = updM ν a k := by
  funext b; unfold updM; split <;> rfl
theorem updM_off {ν : Muts} {a b : Addr} {l : List D} (h : b ≠ a) : updM ν a l b = ν b := if_neg h

section
variable {c : Cx} {μ : Vars} {ν : Muts} {P : Flow → Shared → Prop} {E : Value → Shared → Prop}
/-- the newest known list becomes data -/
theorem ExS.settle {x : Str} {a : Addr} {l : List D} {b : List Stmt} (hN : ∀ b, ¬ c.N b) (h' : ν a = none) (hr : ExS c (upd μ x (.list l)) ν b P E) : ExS c (upd μ x (.val (.ref a))) (updM ν a l) b P E := by
  refine ExS.recast (x := x) (a := a) (l := l) (ν' := ν) (if_pos rfl) (if_pos rfl) h' (fun b k e => ?_) (fun b q => absurd q (hN b)) ?_
  · rw [updM_off]
    · exact e
    · rintro rfl; rw [h'] at e; cases e
  · rw [upd_upd]; exact hr
end

variable {P : Params} {prog : Program} {w : World} {hL : Heap}
/-- told = [list(read_bytes1(stream)) for turn in range(read_uint1(stream))] -/
theorem law_told (h : HL P hL) (A : Around) (room : Room A 10) (s : Shared) {g : View} {items : List (List Nat)} {m : Nat} (hm : m ≤ items.length) (hm8 : m ≤ 8) (hsz : (m :: framed items).length ≤ 16777216) (hit : ∀ l ∈ items, l.length < 256 ∧ ∀ n ∈ l, n < 256)
    {a Lp : Addr} (K : StreamAt P hL a (m :: framed items) Lp) {μ : Vars} (hμ : μ "stream" = some (.val (.ref a))) {PP : Flow → Shared → Prop} {E : Value → Shared → Prop}
    (hr : ExS (lcx prog w A hL P s g) (upd μ "told" (.list ((items.take m).map nl))) (updM noMuts Lp [nt (1 + (framed (items.take m)).length)]) ((bodyAt P 146).drop 10) PP E) :
    ExS (lcx prog w A hL P s g) μ (updM noMuts Lp [nt 0]) ((bodyAt P 146).drop 9) PP E := by
  have S : Std P (lcx prog w A hL P s g) := lcx_std h
  have hh : (lcx prog w A hL P s g).A.handled = none := room.handled
  obtain ⟨o35, ho35, hfd35⟩ := (uint1_at h).obj
  obtain ⟨o42, ho42, hfd42⟩ := (bytes1_at h).obj
  refine ExS.known fun hnew => ?_
  have hLp : s.heap.get? Lp = none := (hnew Lp (by simp [updM])).resolve_left (by intro q; cases q)
  refine ExS.compM (QI := fun ν₁ ds => ν₁ = updM noMuts Lp [nt 1] ∧ ds = (List.range m).map nt) (fun _ _ i ν' out => ν' = updM noMuts Lp [nt (1 + (framed (items.take i)).length)] ∧ out = (items.take i).map nl)
    (EvIM.range (Ev.builtin S (by kernel_rfl)) (EvM.mono (EvM.callF (Ev.global S) ho35 hfd35 (by decide) (EvL.cons (Ev.name hμ) EvL.nil) (CallM.ofProc (need := 2) (room.le (by decide)) (uint1_proc h K (pos := 0) (x := m) (if_pos rfl) hsz rfl (by omega)) fun b hb => ?_)) fun ν' d q => ⟨q.1.trans updM_twice, q.2⟩) hh (by omega)) (by kernel_rfl) (by decide) (lown _) ?_ ?_
  · subst hb; exact ⟨by simp [updM], Or.inr hLp⟩
  · rintro ν₁ ds ⟨rfl, rfl⟩
    refine ⟨by simp; omega, ⟨by simp [framed], by simp⟩, fun i ν' out q => by rw [q.2]; simp; omega, fun s1 C H g1 i d ν' out _ hd hq => ?_⟩
    obtain ⟨rfl, rfl⟩ := hq
    obtain ⟨j, hj, rfl⟩ := map_get hd
    have hij : i < m := by
      have := (List.getElem?_eq_some_iff.mp hj).1
      simpa using this
    have hi : items[i]? = some items[i] := List.getElem?_eq_getElem (by omega)
    generalize items[i] = l at hi
    obtain ⟨hl1, hl2⟩ := hit l (List.mem_of_getElem? hi)
    obtain ⟨f1, f2, f3⟩ := framed_at (pre := [m]) items i l hi
    have hlen : l.length ≤ 16777216 := by omega
    refine ⟨true, EvT.nil, fun q => (by cases q), fun _ g2 => ?_⟩
    refine EvM.callT (T := "list") (Ev.builtin (S.compM _ _ _ _ _ _ _) (by kernel_rfl)) (EvM.callF (Ev.global (S.compM _ _ _ _ _ _ _)) ho42 hfd42 (by decide) (EvL.cons (Ev.name (d := .val (.ref a)) hμ) EvL.nil) (CallM.ofProc (need := 3) (room.le (by decide)) (bytes1_proc h K (pos := 1 + (framed (items.take i)).length) (n := l.length) (l := l) (if_pos rfl) hsz f1 hl1 f2 rfl) fun b hb => ?_)) fun ν'' d q => ?_
    · subst hb; exact ⟨by simp [updM], Or.inl ⟨by simp [updM], Or.inr hLp⟩⟩
    · obtain ⟨rfl, rfl⟩ := q
      refine CallM.ofIs (call_listB hl2 hlen (by exact hh)).callIs ⟨?_, ?_⟩
      · rw [updM_twice, f3]
        congr 3
        omega
      · rw [List.take_add_one, hi]; simp
  · rintro ν₁ ds ν' out b ⟨rfl, rfl⟩ ⟨rfl, rfl⟩ hb _
    rw [List.length_map, List.length_range] at hb ⊢
    exact ExS.settle (fun _ q => by cases q) hb hr
end Mine
end
section
open PySem PySem.W PyProof.Rows
set_option autoImplicit false
set_option maxRecDepth 100000
set_option maxHeartbeats 1000000
namespace Mine
theorem kmap_out {ν0 : Muts} {as : List Addr} {ρ : Rows} {b : Addr} (h : b ∉ as) : kmap ν0 as ρ b = ν0 b := if_neg h
theorem kmap_base {ν0 : Muts} {as : List Addr} {ρ : Rows} {b : Addr} {l : List D} (h : b ∉ as) : updM (kmap ν0 as ρ) b l = kmap (updM ν0 b l) as ρ := by
  funext x
  unfold updM kmap
  dsimp only
  by_cases hx : x = b
  · subst hx; rw [if_pos rfl, if_neg h, if_pos rfl]
  · rw [if_neg hx, if_neg hx]
theorem kmap_snoc {ν0 : Muts} {as : List Addr} {ρ : Rows} {b : Addr} {l : List Nat} (h : b ∉ as) : updM (kmap ν0 as ρ) b (l.map nt) = kmap ν0 (as ++ [b]) (fun x => if x = b then l else ρ x) := by
  funext x
  unfold updM kmap
  dsimp only
  by_cases hx : x = b
  · subst hx; rw [if_pos rfl, if_pos (by simp), if_pos rfl]
  · rw [if_neg hx]
    by_cases hm : x ∈ as
    · rw [if_pos hm, if_pos (by simp [hm]), if_neg hx]
    · rw [if_neg hm, if_neg (by simp [hm, hx])]
theorem CallM.mono {c : Cx} {μ : Vars} {ν : Muts} {f : Value} {ds : List D} {Q Q' : Muts → D → Prop} (h : CallM c μ ν f ds Q) (q : ∀ ν' d, Q ν' d → Q' ν' d) : CallM c μ ν f ds Q' := fun s E vs F r =>
  wpAny_mono (h s E vs F r) (fun _ _ ⟨ν', d, a, b⟩ => ⟨ν', d, q ν' d a, b⟩) fun _ _ e => e

/-- the rows, as they have been read -/
structure RowsAt (rows : List (List Nat)) (Lp : Addr) (as : List Addr) (ρ : Rows) : Prop where
  nodup : as.Nodup
  place : Lp ∉ as
  map : as.map ρ = rows

variable {P : Params} {prog : Program} {w : World} {hL : Heap}
/-- rows = [list(read_bytes1(stream)) for right in range(12)] -/
theorem law_rows (h : HL P hL) (A : Around) (room : Room A 10) (s : Shared) {g : View} {items : List (List Nat)} {m : Nat} (hm : m + 12 ≤ items.length) (hm8 : m ≤ 8) (hsz : (m :: framed items).length ≤ 16777216) (hit : ∀ l ∈ items, l.length < 256 ∧ ∀ n ∈ l, n < 256)
    {a Lp : Addr} (K : StreamAt P hL a (m :: framed items) Lp) {μ : Vars} (hμ : μ "stream" = some (.val (.ref a))) {PP : Flow → Shared → Prop} {E : Value → Shared → Prop}
    (hr : ∀ as ρ, RowsAt ((items.drop m).take 12) Lp as ρ → ExS (lcx prog w A hL P s g) (upd μ "rows" (.list (refs as))) (kmap (updM noMuts Lp [nt (1 + (framed (items.take (m + 12))).length)]) as ρ) ((bodyAt P 146).drop 11) PP E) :
    ExS (lcx prog w A hL P s g) μ (updM noMuts Lp [nt (1 + (framed (items.take m)).length)]) ((bodyAt P 146).drop 10) PP E := by
  have S : Std P (lcx prog w A hL P s g) := lcx_std h
  have hh : (lcx prog w A hL P s g).A.handled = none := room.handled
  obtain ⟨o42, ho42, hfd42⟩ := (bytes1_at h).obj
  refine ExS.known fun hnew => ?_
  have hLp : s.heap.get? Lp = none := (hnew Lp (by simp [updM])).resolve_left (by intro q; cases q)
  refine ExS.compM (QI := fun ν₁ ds => ν₁ = updM noMuts Lp [nt (1 + (framed (items.take m)).length)] ∧ ds = (List.range 12).map nt)
    (fun _ _ i ν' out => ∃ as ρ, RowsAt ((items.drop m).take i) Lp as ρ ∧ as.length = i ∧ ν' = kmap (updM noMuts Lp [nt (1 + (framed (items.take (m + i))).length)]) as ρ ∧ out = refs as)
    (EvIM.ofEvI (EvI.rangeN (Ev.builtin S (by kernel_rfl)) (Ev.nat 12) hh (by decide)) ⟨rfl, rfl⟩) (by kernel_rfl) (by decide) (lown _) ?_ ?_
  · rintro ν₁ ds ⟨rfl, rfl⟩
    refine ⟨by simp, ⟨[], fun _ => [], ⟨by simp, by simp, by simp⟩, rfl, ?_, rfl⟩, fun i ν' out ⟨as, ρ, _, hl, _, ho⟩ => by rw [ho]; simp [hl], fun s1 C H g1 i d ν' out _ hd hq => ?_⟩
    · funext b; rw [kmap_out (by simp)]; rfl
    obtain ⟨as, ρ, R, hlen, rfl, rfl⟩ := hq
    obtain ⟨j, hj, rfl⟩ := map_get hd
    have hij : i < 12 := by
      have := (List.getElem?_eq_some_iff.mp hj).1
      simpa using this
    have hi : items[m + i]? = some items[m + i] := List.getElem?_eq_getElem (by omega)
    generalize items[m + i] = l at hi
    obtain ⟨hl1, hl2⟩ := hit l (List.mem_of_getElem? hi)
    obtain ⟨f1, f2, f3⟩ := framed_at (pre := [m]) items (m + i) l hi
    have hle : l.length ≤ 16777216 := by omega
    have hk : kmap (updM noMuts Lp [nt (1 + (framed (items.take (m + i))).length)]) as ρ Lp = some [nt (1 + (framed (items.take (m + i))).length)] := by rw [kmap_out R.place]; exact if_pos rfl
    refine ⟨true, EvT.nil, fun q => (by cases q), fun _ g2 => ?_⟩
    refine EvM.callT (T := "list") (Ev.builtin (S.compM _ _ _ _ _ _ _) (by kernel_rfl)) (EvM.callF (Ev.global (S.compM _ _ _ _ _ _ _)) ho42 hfd42 (by decide) (EvL.cons (Ev.name (d := .val (.ref a)) hμ) EvL.nil) (CallM.ofProc (need := 3) (room.le (by decide)) (bytes1_proc h K (pos := 1 + (framed (items.take (m + i))).length) (n := l.length) (l := l) hk hsz f1 hl1 f2 rfl) fun b hb => ?_)) fun ν'' d q => ?_
    · subst hb; exact ⟨by rw [hk]; rfl, Or.inl ⟨by simp [updM], Or.inr hLp⟩⟩
    · obtain ⟨rfl, rfl⟩ := q
      refine CallM.mono (call_listB hl2 hle (by exact hh)).callM fun ν3 d3 ⟨b, hb, e1, e2⟩ => ?_
      subst e1 e2
      rw [kmap_base R.place, updM_twice] at hb ⊢
      have hb1 : b ∉ as := fun q => by rw [kmap_in q] at hb; cases hb
      have hb2 : b ≠ Lp := fun q => by subst q; rw [kmap_out hb1] at hb; simp [updM] at hb
      refine ⟨as ++ [b], fun x => if x = b then l else ρ x, ⟨?_, ?_, ?_⟩, by simp [hlen], ?_, by simp⟩
      · rw [List.nodup_append]
        exact ⟨R.nodup, by simp, fun x hx y hy q => hb1 (by rw [List.mem_singleton] at hy; rwa [q, hy] at hx)⟩
      · simp [R.place, Ne.symm hb2]
      · rw [List.take_add_one, List.getElem?_drop, hi, List.map_append, ← R.map]
        have : as.map (fun x => if x = b then l else ρ x) = as.map ρ := List.map_congr_left fun x hx => if_neg fun (q : x = b) => hb1 (by rwa [q] at hx)
        rw [this]; simp
      · have e : 1 + (framed (items.take (m + i))).length + 1 + l.length = 1 + (framed (items.take (m + (i + 1)))).length := by
          rw [show m + (i + 1) = m + i + 1 by omega, f3]; omega
        rw [kmap_snoc hb1, e]
  · rintro ν₁ ds ν' out b ⟨rfl, rfl⟩ ⟨as, ρ, R, hlen, rfl, rfl⟩ hb _
    rw [List.length_map, List.length_range] at R hb ⊢
    exact ExS.settle (fun _ q => by cases q) hb (hr as ρ R)
end Mine
end
section
open PySem PySem.W PyProof.Rows
set_option autoImplicit false
set_option maxRecDepth 100000
set_option maxHeartbeats 1000000
namespace Mine
section
variable {c : Cx} {μ : Vars} {ν : Muts}
/-- a call of a def, its arguments worked out as they may be -/
theorem eval_callFX {x : Str} {p pos : Pos} {a : Addr} {o : Obj} {fd : FuncData} {e : Expr} {es : List Expr} {Q : Value → Shared → Prop} {E : Value → Shared → Prop} {s : Shared} (F : c.F μ ν s) (hf : Ev c μ ν (.Name x p) (.val (.ref a)))
    (hfd : o.data = .func fd) (ha : ∀ s₁, c.F μ ν s₁ → wpAny c.M c.A (spliced (backTo pos (starEach (e :: es) c.env))) (fun vs s₂ => s₂.heap.get? a = some o ∧ wpAny c.M c.A (call (.ref a) vs) Q E s₂) E s₁)
    (he : starEach (e :: es) c.env = (false, eval e c.env) :: starEach es c.env := by rfl) :
    wpAny c.M c.A (eval (.Call (.Name x p) (e :: es) [] pos) c.env) Q E s := by
  refine wpAny_Call_NameR (wpAny_mono (hf s E F) (fun f s₁ h₁ => ?_) fun _ _ e => e)
  have hfe := h₁.2
  simp only [Rep] at hfe
  subst hfe
  have ha' := ha s₁ (F.keeps h₁.1)
  rw [he] at ha' ⊢
  refine Calls.callWith_function (o := o) (fd := fd) (Calls.evalArgs_plain (wpAny_mono ha' (fun vs s₂ h₂ => ?_) fun _ _ e => e))
  exact ⟨⟨h₂.1, hfd⟩, h₂.2⟩
end

variable {P : Params} {prog : Program} {w : World} {hL : Heap}
/-- what is known of a def made within a def stays known -/
theorem CloAt.mono {hL hL2 : Heap} {a : Addr} {fd : FuncData} {body : List Stmt} {ns : List Str} {capt : Vars} (K : CloAt hL a fd body ns capt) (l : ∀ b o, b ∉ tabs → hL.get? b = some o → hL2.get? b = some o) (lim : hL2.NoLimit) : CloAt hL2 a fd body ns capt where
  at_ := K.at_.elim fun o ⟨e, d⟩ => ⟨o, l _ _ K.notTab e, d⟩
  notTab := K.notTab
  body_ := K.body_
  lim := lim
  code := K.code.elim fun cd ⟨e, ht, r⟩ => ⟨cd, e, ht, e ▸ coderec_off l ht (e ▸ r)⟩
  plain := K.plain
  nodup := K.nodup
  kinds := K.kinds
  nocell := K.nocell
  apart := K.apart
  cells := by
    obtain ⟨cm, h1, h2⟩ := K.cells
    refine ⟨cm, fun n b e => ?_, fun x d e => ?_⟩
    · obtain ⟨ht, o, ho, hd⟩ := h1 n b e
      exact ⟨ht, o, l _ _ ht ho, hd⟩
    · obtain ⟨k1, k2, v, k3, k4⟩ := h2 x d e
      refine ⟨k1, k2, v, k3, Rep.mono (fun b o q _ => ?_) d v k4⟩
      unfold libView at *
      split at q
      · cases q
      · rename_i hb; rw [if_neg hb]; exact l b o hb q
theorem StreamAt.mono {hL hL2 : Heap} {a Lp : Addr} {octets : List Nat} (K : StreamAt P hL a octets Lp) (l : ∀ b o, b ∉ tabs → hL.get? b = some o → hL2.get? b = some o) (lim : hL2.NoLimit) : StreamAt P hL2 a octets Lp := by
  obtain ⟨d, r, fd, sl, m, orr, fr, h1, h2, h3, h4, h5, h6, h7, h8, h9, h10⟩ := K.fn
  exact ⟨d, r, fd, sl, m, orr, fr, l _ _ h2 h1, h2, h3.at' fun o e => l _ _ h4 e, h4, h5, l _ _ h8 h6, h7, h8, h9, h10.mono l lim⟩
/-- what the heap knew, it knows behind a rebase -/
theorem lib_rebase {c : Cx} {μ : Vars} {ν : Muts} {s : Shared} {K : List Addr} (F : c.F μ ν s) (O : OwnAll c ν K) : ∀ b o, b ∉ tabs → c.hL.get? b = some o → (hideAll s.heap K).get? b = some o := fun b o hb e =>
  (hideAll_eq fun q => by have := O.out _ q; rw [e] at this; cases this).trans (F.lib.get b o hb e)
theorem kmap_dom {Lp : Addr} {l : List D} {as : List Addr} {ρ : Rows} (b : Addr) : (kmap (updM noMuts Lp l) as ρ b).isSome = true ↔ b ∈ Lp :: as := by
  by_cases h1 : b ∈ as
  · rw [kmap_in h1]; simp [h1]
  · rw [kmap_out h1]
    by_cases h2 : b = Lp
    · subst h2; simp [updM]
    · rw [updM_off h2]; simp [noMuts, h1, h2]
def fold256 (l : List Nat) : Nat := l.foldl (fun n o => 256 * n + o) 0
theorem fold_mode {mode : Nat} (h : mode < 262144) : fold256 (modeRow mode) = mode := by
  simp only [fold256, modeRow, List.foldl]; omega

/-- begun = reduce(lambda number, octet: .., list(read_bytes1(stream)), 0) -/
theorem law_begun (h : HL P hL) (A : Around) (room : Room A 10) (s : Shared) {items : List (List Nat)} {m mode : Nat} (hmode : mode < 262144) (hi : items[m + 12]? = some (modeRow mode)) (hsz : (m :: framed items).length ≤ 16777216)
    {a Lp : Addr} (K : StreamAt P hL a (m :: framed items) Lp) {as : List Addr} {ρ : Rows} {p2 : Array Value} (hLp : Lp ∉ as) {μ : Vars} (hμ : μ "stream" = some (.val (.ref a))) {PP : Flow → Shared → Prop} {E : Value → Shared → Prop}
    (hr : ∀ hL' p p3, HL P hL' → ExS (lcx prog w A hL' P s (gT #[] p2 p3)) (upd μ "begun" (nt mode)) (kmap (updM noMuts Lp [p]) as ρ) ((bodyAt P 146).drop 12) PP E) :
    ExS (lcx prog w A hL P s (gT #[] p2 #[])) μ (kmap (updM noMuts Lp [nt (1 + (framed (items.take (m + 12))).length)]) as ρ) ((bodyAt P 146).drop 11) PP E := by
  have S : Std P (lcx prog w A hL P s (gT #[] p2 #[])) := lcx_std h
  obtain ⟨o23, ho23, hfd23⟩ := (reduce_at h).obj
  refine ExS.known fun hnew => ?_
  have hk : kmap (updM noMuts Lp [nt (1 + (framed (items.take (m + 12))).length)]) as ρ Lp = some [nt (1 + (framed (items.take (m + 12))).length)] := by rw [kmap_out hLp]; exact if_pos rfl
  have hLp0 : s.heap.get? Lp = none := (hnew Lp (by rw [hk]; rfl)).resolve_left (by intro q; cases q)
  refine ExS.assignX fun s₁ F₁ => ?_
  refine eval_callFX (a := 23) F₁ (Ev.global S) hfd23 fun s₂ F₂ => ?_
  refine wpAny_items_cons (FD.lamExpr F₂ h (t := 143) (cd := 145) (by decide) (by kernel_rfl) (show 143 ∈ tabs by decide) rfl trivial rfl (by kernel_rfl) (by kernel_rfl) fun pm f c₁ ctv s₃ F₃' hf0 hc0 hfo hcode hkeep => ?_) rfl
  have F₃ := F₃'
  generalize hp3 : (#[] ++ #[rawInt _, rawInt _, Value.ref c₁] : Array Value) = p3 at F₃
  have F₄ : FD (lcx prog w A hL P s (gT #[] p2 p3)) μ _ s₃ := FD.lessG (c := lcx prog w A hL P s (gT #[] p2 p3)) F₃ (fun b o e => by
    have e : gT #[] p2 p3 b = some o := e
    show (if b = 143 then some (tabObj p3) else gT #[] p2 #[] b) = some o
    unfold gT at *
    by_cases hb : b = 143
    · subst hb; exact e
    · simp only [if_neg hb] at e ⊢
      exact e)
  have O := ownAll F₄ (fun _ => rfl) (fun _ q => q) kmap_dom
  have G := F₄.rebase O
  have h' := HL.rebase h F₄ O
  have live₂ := ownK_live (c := lcx prog w A hL P s (gT #[] p2 #[])) F₂ (as := Lp :: as) fun b hb => (kmap_dom b).mpr hb
  have off : ∀ b, s₂.heap.get? b = none → b ∉ ownK (lcx prog w A hL P s (gT #[] p2 p3)) (Lp :: as) := fun b e q => by
    have := live₂ b q; rw [e] at this; cases this
  have notTab : ∀ b, s₂.heap.get? b = none → b ∉ tabs := fun b e q => by
    have := F₂.lib.tab b q; rw [e] at this; cases this
  have f1 : (hideAll s₃.heap (ownK (lcx prog w A hL P s (gT #[] p2 p3)) (Lp :: as))).get? f = some _ := (hideAll_eq (off f hf0)).trans hfo
  have c1 : (hideAll s₃.heap (ownK (lcx prog w A hL P s (gT #[] p2 p3)) (Lp :: as))).CodeRec (.ref c₁) ((lcx prog w A hL P s (gT #[] p2 #[])).env.qual ++ "<lambda>") := by
    obtain ⟨c', o, vs, t, e, ho, r⟩ := hcode
    cases e
    exact ⟨c₁, o, vs, t, rfl, (hideAll_eq (off c₁ hc0)).trans ho, r⟩
  have st1 : (hideAll s₃.heap (ownK (lcx prog w A hL P s (gT #[] p2 p3)) (Lp :: as))).get? 23 = some o23 := lib_rebase F₄ O 23 o23 (by decide) ho23
  have a1 : StreamAt P (hideAll s₃.heap (ownK (lcx prog w A hL P s (gT #[] p2 p3)) (Lp :: as))) a (m :: framed items) Lp := K.mono (lib_rebase F₄ O) h'.lim
  clear O live₂ off
  generalize hideAll s₃.heap (ownK (lcx prog w A hL P s (gT #[] p2 p3)) (Lp :: as)) = hL2 at *
  have S2 : Std P (lcx prog w A hL2 P s (gT #[] p2 p3)) := lcx_std h'
  have hh : (lcx prog w A hL2 P s (gT #[] p2 p3)).A.handled = none := room.handled
  obtain ⟨o42, ho42, hfd42⟩ := (bytes1_at h').obj
  obtain ⟨g1, g2, g3⟩ := framed_at (pre := [m]) items (m + 12) _ hi
  have hs256 : ∀ n ∈ modeRow mode, n < 256 := by
    intro n hn
    simp only [modeRow, List.mem_cons, List.not_mem_nil, or_false] at hn
    omega
  refine wpAny_items_cons (wpAny_mono (show wpAny (lcx prog w A hL2 P s (gT #[] p2 p3)).M (lcx prog w A hL2 P s (gT #[] p2 p3)).A _ _ _ _ from (EvM.callT (T := "list") (c := lcx prog w A hL2 P s (gT #[] p2 p3)) (Q' := fun ν' d => ν' = kmap (updM noMuts Lp [nt (1 + (framed (items.take (m + 12))).length + 1 + 3)]) as ρ ∧ d = nl (modeRow mode)) (Ev.builtin S2 (by kernel_rfl)) (EvM.callF (Ev.global S2) ho42 hfd42 (by decide) (EvL.cons (Ev.name (d := .val (.ref a)) hμ) EvL.nil) (CallM.ofProc (need := 3) (room.le (by decide)) (bytes1_proc h' a1 (pos := 1 + (framed (items.take (m + 12))).length) (n := 3) (l := modeRow mode) hk hsz g1 (by decide) g2 rfl) fun b hb => ?_)) fun ν'' d q => ?_) s₃ E G) (fun v s₄ h₄ => ?_) fun _ _ e => e) rfl
  · subst hb; exact ⟨by rw [hk]; rfl, Or.inr hLp0⟩
  · obtain ⟨rfl, rfl⟩ := q
    exact CallM.ofIs (call_listB hs256 (by simp [modeRow]) (by exact hh)).callIs ⟨kmap_base hLp |>.trans (by rw [updM_twice]), rfl⟩
  obtain ⟨ν', d, ⟨rfl, rfl⟩, F₅, hv⟩ := h₄
  refine wpAny_items_cons (wpAny_mono (show wpAny (lcx prog w A hL2 P s (gT #[] p2 p3)).M (lcx prog w A hL2 P s (gT #[] p2 p3)).A _ _ _ _ from Ev.nat 0 s₄ E F₅) (fun z s₅ h₅ => ?_) fun _ _ e => e) rfl
  refine Calls.spliced_nil ⟨(F₅.keeps h₅.1).lib.get 23 o23 (by decide) st1, ?_⟩
  have LA : LamAt hL2 f (kla_fn "<lambda>" ((lcx prog w A hL P s (gT #[] p2 #[])).env.qual ++ "<lambda>") _ _ _ _ pm (.ref c₁) ctv) _ ["number", "octet"] := {
    at_ := ⟨_, f1, rfl⟩
    notTab := notTab f hf0
    body_ := rfl
    lim := h'.lim
    code := ⟨c₁, rfl, notTab c₁ hc0, c1⟩
    plain := ⟨rfl, rfl, rfl⟩
    nodup := by decide
    kinds := fun n hn => by
      simp only [List.mem_cons, List.not_mem_nil, or_false] at hn
      rcases hn with rfl | rfl <;> rfl
    nocell := by
      show ∀ x ∈ ([("number", .local), ("octet", .local)] : List (Str × NameKind)), x.2 ≠ .cell
      decide
    clo := by kernel_rfl }
  have hacc : ∀ i d, ((modeRow mode).map nt)[i]? = some d → Pure prog w hL2 f 1 [nt (fold256 ((modeRow mode).take i)), d] (nt (fold256 ((modeRow mode).take (i + 1)))) := by
    intro i d hd
    obtain ⟨x, hx, rfl⟩ := map_get hd
    have hxs := hs256 x (List.mem_of_getElem? hx)
    have e : fold256 ((modeRow mode).take (i + 1)) = 256 * fold256 ((modeRow mode).take i) + x := by
      rw [List.take_add_one, hx]; simp [fold256]
    rw [e]
    exact pure_lam LA rfl (fun vs hvs => by
      match vs, hvs with
      | [u, v], _ => rfl) fun A s H r => Ev.bin (Ev.bin (Ev.nat 256) (Ev.name rfl) (op_mulN (by decide))) (Ev.name rfl) op_addN
  refine wpAny_mono ((CallIs.ofPure (c := lcx prog w A hL2 P s (gT #[] p2 p3)) (μ := μ) (room.le (by decide)) (reduce_pure h' (need := 1) (acc := fun i => nt (fold256 ((modeRow mode).take i))) f1 rfl (notTab f hf0) ⟨0, rfl⟩ hacc)) s₅ E [.ref f, v, z] (F₅.keeps h₅.1) ?_) (fun r s₆ h₆ => ?_) fun _ _ e => e
  · simp only [Reps]
    exact ⟨_, _, rfl, rfl, _, _, rfl, hv.keeps h₅.1, _, _, rfl, h₅.2, rfl⟩
  have e3 : fold256 ((modeRow mode).take ((modeRow mode).map nt).length) = mode := fold_mode hmode
  rw [e3] at h₆
  exact store_on (c' := lcx prog w A hL2 P s (gT #[] p2 p3)) (d := nt mode) rfl rfl rfl (F₅.keeps (h₅.1.trans h₆.1)) (lown _) h₆.2 (hr hL2 _ _ h')
end Mine
end
section
open PySem PyProof.Rows
set_option autoImplicit false
namespace Mine

/-- plain lists -/
theorem idx_ne {y k : Nat} {R : List Nat} (h : y ≠ k) : (y :: R).idxOf k = R.idxOf k + 1 := by
  rw [List.idxOf_cons, (beq_eq_false_iff_ne).mpr h]; rfl
theorem getD_set_swap : ∀ (l : List Nat) (p : Nat), p + 1 < l.length → ((l.set p (l.getD (p + 1) 0)).set (p + 1) (l.getD p 0)).Perm l
  | [], _, h => absurd h (Nat.not_lt_zero _)
  | [_], p, h => by simp at h
  | x :: y :: t, 0, _ => by simpa using List.Perm.swap x y t
  | x :: t, p + 1, h => by
    have := getD_set_swap t p (by simpa using h)
    simpa using List.Perm.cons x this

structure LogsOk (deeds : List (Nat × Nat × Nat)) (L : List (List Nat)) : Prop where
  len : L.length = 12
  mem : ∀ r, r < 12 → ∀ k, k ∈ L.getD r [] ↔ k < deeds.length ∧ (r = (deeds.getD k (0, 0, 0)).1 ∨ r = (deeds.getD k (0, 0, 0)).2.1)
  nodup : ∀ r, r < 12 → (L.getD r []).Nodup

theorem logsOf_ok (deeds : List (Nat × Nat × Nat)) : LogsOk deeds (logsOf deeds) := by
  have e : ∀ r, r < 12 → (logsOf deeds).getD r [] = (List.range deeds.length).filter fun k => decide (r ∈ [(deeds.getD k (0, 0, 0)).1, (deeds.getD k (0, 0, 0)).2.1]) := fun r hr => by
    simp [logsOf, hr]
  refine ⟨by simp [logsOf], fun r hr k => ?_, fun r hr => ?_⟩
  · rw [e r hr]; simp
  · rw [e r hr]; exact List.nodup_range.filter _

theorem bend_ok {deeds : List (Nat × Nat × Nat)} {L : List (List Nat)} (h : LogsOk deeds L) (n : Int) : LogsOk deeds (bend L n) := by
  unfold bend
  dsimp only
  split
  case isFalse => exact h
  case isTrue q =>
    have hp := getD_set_swap _ _ q
    have e : ∀ r, (L.set (n % 12).toNat (((L.getD (n % 12).toNat []).set (n / 12 % 8).toNat ((L.getD (n % 12).toNat []).getD ((n / 12 % 8).toNat + 1) 0)).set ((n / 12 % 8).toNat + 1) ((L.getD (n % 12).toNat []).getD (n / 12 % 8).toNat 0))).getD r [] |>.Perm (L.getD r []) := by
      intro r
      by_cases hr : r = (n % 12).toNat
      · subst hr
        rw [List.getD_eq_getElem?_getD, List.getElem?_set]
        rw [if_pos rfl]
        split
        · exact hp
        · rename_i hlt
          rw [List.getD_eq_getElem?_getD, List.getElem?_eq_none (by omega)]
      · rw [List.getD_eq_getElem?_getD, List.getElem?_set, if_neg (Ne.symm hr), ← List.getD_eq_getElem?_getD]
    exact ⟨by simpa using h.len, fun r hr k => (e r).mem_iff.trans (h.mem r hr k), fun r hr => (e r).nodup_iff.mpr (h.nodup r hr)⟩

theorem bends_ok {deeds : List (Nat × Nat × Nat)} : ∀ (ns : List Int) {L : List (List Nat)}, LogsOk deeds L → LogsOk deeds (ns.foldl bend L)
  | [], _, h => h
  | n :: ns, _, h => bends_ok ns (bend_ok h n)

/-- x stands ahead of k in l -/
def Ahead (l : List Nat) (x k : Nat) : Prop := k ∈ l ∧ x ∈ l.take (l.idxOf k)

theorem ahead_mem {l : List Nat} {x k : Nat} (h : Ahead l x k) : x ∈ l := List.mem_of_mem_take h.2
/-- a head stands ahead of its tail -/
theorem ahead_tail {p t : List Nat} {x k : Nat} (hn : (p ++ x :: t).Nodup) (hk : k ∈ t) : Ahead (p ++ x :: t) x k := by
  have hnp : k ∉ p := fun h => (List.nodup_append.mp hn).2.2 k h k (List.mem_cons_of_mem _ hk) rfl
  have hx : k ≠ x := fun e => (List.nodup_cons.mp (List.nodup_append.mp hn).2.1).1 (e ▸ hk)
  refine ⟨by simp [hk], ?_⟩
  rw [List.idxOf_append, if_neg hnp, idx_ne (Ne.symm hx), List.take_append]
  refine List.mem_append_right _ ?_
  rw [show t.idxOf k + 1 + p.length - p.length = t.idxOf k + 1 by omega]
  simp
/-- what is ahead in the first part is ahead in it alone -/
theorem ahead_first {p t : List Nat} {x k : Nat} (hk : k ∈ p) (h : Ahead (p ++ t) x k) : Ahead p x k := by
  refine ⟨hk, ?_⟩
  have := h.2
  rw [List.idxOf_append, if_pos hk] at this
  rwa [List.take_append_of_le_length (Nat.le_of_lt (List.idxOf_lt_length_iff.mpr hk))] at this
/-- a part in the order of the whole -/
theorem ahead_filter {q : Nat → Bool} {x k : Nat} : ∀ {R : List Nat}, R.Nodup → Ahead (R.filter q) x k → R.idxOf x < R.idxOf k
  | [], _, h => by have := h.1; simp at this
  | y :: R, hn, h => by
    have hn' := List.nodup_cons.mp hn
    by_cases hq : q y = true
    · rw [List.filter_cons_of_pos hq] at h
      obtain ⟨h1, h2⟩ := h
      by_cases hy : y = k
      · subst hy; simp at h2
      · have hkR : k ∈ R.filter q := (List.mem_cons.mp h1).resolve_left (Ne.symm hy)
        rw [idx_ne hy, List.take_succ_cons] at h2
        rw [idx_ne hy]
        rcases List.mem_cons.mp h2 with rfl | h2
        · simp
        · have hxR : x ∈ R := (List.mem_filter.mp (List.mem_of_mem_take h2)).1
          rw [idx_ne (fun e : y = x => hn'.1 (e ▸ hxR))]
          have := ahead_filter hn'.2 ⟨hkR, h2⟩
          omega
    · rw [List.filter_cons_of_neg hq] at h
      have hxR : x ∈ R := (List.mem_filter.mp (ahead_mem h)).1
      have hkR : k ∈ R := (List.mem_filter.mp h.1).1
      rw [idx_ne (fun e : y = x => hn'.1 (e ▸ hxR)), idx_ne (fun e : y = k => hn'.1 (e ▸ hkR))]
      have := ahead_filter hn'.2 h
      omega

theorem find_first {f : Nat → Bool} {as bs : List Nat} {a a' : Nat} (hn : as.Nodup) (hs : bs.Sublist as) (h : bs.find? f = some a) (ha : a' ∈ bs) (hf : f a' = true) : as.idxOf a ≤ as.idxOf a' := by
  obtain ⟨_, l, r, rfl, hl⟩ := List.find?_eq_some_iff_append.mp h
  rcases List.mem_append.mp ha with q | q
  · have := hl _ q; rw [hf] at this; cases this
  · rcases List.mem_cons.mp q with rfl | q
    · exact Nat.le_refl _
    · have hp : as.Pairwise fun x y => as.idxOf x < as.idxOf y := by
        rw [List.pairwise_iff_getElem]
        intro i j hi hj hij
        rw [hn.idxOf_getElem, hn.idxOf_getElem]
        exact hij
      have h2 := (List.Pairwise.sublist hs hp)
      rw [List.pairwise_append] at h2
      exact Nat.le_of_lt ((List.pairwise_cons.mp h2.2.1).1 _ q)

theorem nodup_len : ∀ (m : Nat) {l : List Nat}, l.Nodup → (∀ x ∈ l, x < m) → l.length ≤ m
  | 0, [], _, _ => Nat.le_refl _
  | 0, x :: _, _, h => absurd (h x List.mem_cons_self) (Nat.not_lt_zero _)
  | m + 1, l, hn, h => by
    have := nodup_len m (hn.erase m) fun x hx => by
      have := (hn.mem_erase_iff).mp hx
      have := h x this.2
      omega
    rw [List.length_erase] at this
    split at this <;> omega
end Mine
end
section
open PySem PyProof.Rows
set_option autoImplicit false
namespace Mine

section
variable {as : List Addr} {ρ0 : Rows}

/-- k is free behind the deeds of F: all that stands ahead of it is among them -/
def FreeAt (as : List Addr) (ρ0 : Rows) (F : List Nat) (k : Nat) : Prop := k ∉ F ∧ ∀ a ∈ as, k ∈ ρ0 a → ∀ x, Ahead (ρ0 a) x k → x ∈ F

structure MInv (as : List Addr) (ρ0 ρ : Rows) (bs : List Addr) (R : List Nat) : Prop where
  sub : bs.Sublist as
  gone : ∀ a ∈ as, a ∉ bs → ρ a = []
  part : ∀ a ∈ as, R.filter (fun x => decide (x ∈ ρ0 a)) ++ ρ a = ρ0 a
  nodup : R.Nodup
  fro : ∀ k ∈ R, ∃ a ∈ as, k ∈ ρ0 a
  choice : ∀ i c, R[i]? = some c → ∀ k, FreeAt as ρ0 (R.take i) k → ∀ a ∈ as, k ∈ ρ0 a → ∃ b ∈ as, c ∈ ρ0 b ∧ as.idxOf b ≤ as.idxOf a

theorem MInv.live {ρ : Rows} {bs : List Addr} {R : List Nat} (M : MInv as ρ0 ρ bs R) {a : Addr} (ha : a ∈ as) (h : ρ a ≠ []) : a ∈ liveOf ρ bs := by
  unfold liveOf
  rw [List.mem_filter]
  refine ⟨Classical.byContradiction fun q => h (M.gone a ha q), ?_⟩
  cases e : ρ a with
  | nil => exact absurd e h
  | cons x t => rfl
/-- what has been placed stands no more in the rows -/
theorem MInv.off {ρ : Rows} {bs : List Addr} {R : List Nat} (M : MInv as ρ0 ρ bs R) (hn : ∀ a ∈ as, (ρ0 a).Nodup) {a : Addr} (ha : a ∈ as) {k : Nat} (hk : k ∈ ρ a) : k ∉ R := fun hR => by
  have h0 : k ∈ ρ0 a := by rw [← M.part a ha]; exact List.mem_append_right _ hk
  have hnd := hn a ha
  rw [← M.part a ha] at hnd
  exact (List.nodup_append.mp hnd).2.2 k (List.mem_filter.mpr ⟨hR, by simpa using h0⟩) k hk rfl
theorem MInv.on {ρ : Rows} {bs : List Addr} {R : List Nat} (M : MInv as ρ0 ρ bs R) {a : Addr} (ha : a ∈ as) {k : Nat} (hk : k ∈ ρ0 a) (hR : k ∉ R) : k ∈ ρ a := by
  rw [← M.part a ha] at hk
  rcases List.mem_append.mp hk with q | q
  · exact absurd (List.mem_filter.mp q).1 hR
  · exact q
/-- the head of a row stands ahead of the row's tail -/
theorem MInv.tail {ρ : Rows} {bs : List Addr} {R : List Nat} (M : MInv as ρ0 ρ bs R) (hn : ∀ a ∈ as, (ρ0 a).Nodup) {a : Addr} (ha : a ∈ as) {x k : Nat} {t : List Nat} (e : ρ a = x :: t) (hk : k ∈ t) : Ahead (ρ0 a) x k := by
  have hnd := hn a ha
  rw [← M.part a ha, e] at hnd ⊢
  exact ahead_tail hnd hk

theorem MInv.step {ρ : Rows} {bs : List Addr} {R : List Nat} {c : Nat} (M : MInv as ρ0 ρ bs R) (has : as.Nodup) (hn : ∀ a ∈ as, (ρ0 a).Nodup) (hc : candOf ρ (liveOf ρ bs) = some c) :
    MInv as ρ0 (afterC ρ (liveOf ρ bs) c) (liveOf ρ bs) (R ++ [c]) := by
  have hsub : (liveOf ρ bs).Sublist as := List.filter_sublist.trans M.sub
  unfold candOf at hc
  rw [Option.map_eq_some_iff] at hc
  obtain ⟨a0, hf, hc⟩ := hc
  have hok := List.find?_some hf
  have hm0 := List.mem_of_find?_eq_some hf
  have ha0 := hsub.subset hm0
  obtain ⟨_, c', t0, e0⟩ := live_mem hm0
  have : c' = c := by rw [← hc, e0]; rfl
  subst this
  have hcR : c' ∉ R := M.off hn ha0 (by rw [e0]; exact List.mem_cons_self)
  have notail : ∀ a ∈ as, ∀ x t, ρ a = x :: t → c' ∉ t := by
    intro a ha x t e hx
    have hl := M.live ha (by rw [e]; exact List.cons_ne_nil _ _)
    unfold headOk at hok
    have := List.all_eq_true.mp hok a hl
    rw [e, e0] at this
    simp [hx] at this
  have row : ∀ a ∈ as, (c' ∈ ρ0 a → ρ a = c' :: (afterC ρ (liveOf ρ bs) c' a)) ∧ (c' ∉ ρ0 a → afterC ρ (liveOf ρ bs) c' a = ρ a) := by
    intro a ha
    refine ⟨fun h => ?_, fun h => ?_⟩
    · have hr := M.on ha h hcR
      cases e : ρ a with
      | nil => rw [e] at hr; cases hr
      | cons x t =>
        rw [e] at hr
        rcases List.mem_cons.mp hr with rfl | hr
        · unfold afterC
          rw [if_pos (M.live ha (by rw [e]; exact List.cons_ne_nil _ _)), e]
          simp [stepRow]
        · exact absurd hr (notail a ha x t e)
    · unfold afterC
      split
      · unfold stepRow
        rw [if_neg]
        intro q
        apply h
        rw [← M.part a ha]
        refine List.mem_append_right _ ?_
        cases e : ρ a with
        | nil => rw [e] at q; cases q
        | cons x t => rw [e] at q; simp at q; subst q; exact List.mem_cons_self
      · rfl
  exact {
    sub := hsub
    gone := fun a ha h => by
      unfold afterC
      rw [if_neg h]
      exact Classical.byContradiction fun q => h (M.live ha q)
    part := fun a ha => by
      by_cases h : c' ∈ ρ0 a
      · have e := (row a ha).1 h
        rw [List.filter_append, List.filter_cons_of_pos (by simpa using h), List.filter_nil, List.append_assoc, List.singleton_append, ← e]
        exact M.part a ha
      · rw [(row a ha).2 h, List.filter_append, List.filter_cons_of_neg (by simpa using h), List.filter_nil, List.append_nil]
        exact M.part a ha
    nodup := by
      rw [List.nodup_append]
      exact ⟨M.nodup, by simp, fun x hx y hy => by
        rw [List.mem_singleton] at hy; subst hy
        exact fun q => hcR (q ▸ hx)⟩
    fro := fun k hk => by
      rcases List.mem_append.mp hk with h | h
      · exact M.fro k h
      · rw [List.mem_singleton] at h; subst h
        exact ⟨a0, ha0, by rw [← M.part a0 ha0, e0]; simp⟩
    choice := fun i c hi k hF a ha hka => by
      by_cases hlt : i < R.length
      · rw [List.getElem?_append_left hlt] at hi
        rw [List.take_append_of_le_length (Nat.le_of_lt hlt)] at hF
        exact M.choice i c hi k hF a ha hka
      · have hi' : i = R.length := by
          have := (List.getElem?_eq_some_iff.mp hi).1
          simp at this; omega
        subst hi'
        have hcc : c = c' := by simpa using hi.symm
        subst hcc
        rw [List.take_left'  rfl] at hF
        have hk := M.on ha hka hF.1
        have hd : ∃ t, ρ a = k :: t := by
          cases e : ρ a with
          | nil => rw [e] at hk; cases hk
          | cons x t =>
            rw [e] at hk
            rcases List.mem_cons.mp hk with rfl | hk
            · exact ⟨t, rfl⟩
            · exact absurd (hF.2 a ha hka x (M.tail hn ha e hk)) (M.off hn ha (by rw [e]; exact List.mem_cons_self))
        obtain ⟨t, e⟩ := hd
        refine ⟨a0, ha0, by rw [← M.part a0 ha0, e0]; simp, find_first has hsub hf (M.live ha (by rw [e]; exact List.cons_ne_nil _ _)) ?_⟩
        unfold headOk
        rw [List.all_eq_true]
        intro b hb
        have hb' := hsub.subset hb
        rw [e]
        obtain ⟨_, y, u, eb⟩ := live_mem hb
        rw [eb]
        have : k ∉ u := fun hu => by
          have hkb : k ∈ ρ0 b := by rw [← M.part b hb', eb]; simp [hu]
          exact M.off hn hb' (by rw [eb]; exact List.mem_cons_self) (hF.2 b hb' hkb y (M.tail hn hb' eb hu))
        simp [this] }

/-- where the merge ends -/
theorem merge_end (has : as.Nodup) (hn : ∀ a ∈ as, (ρ0 a).Nodup) : ∀ (n : Nat) (ρ : Rows) (bs : List Addr) (R : List Nat), MInv as ρ0 ρ bs R → total ρ bs < n →
    ∃ R', (match (mergeF n ρ bs R).2 with
      | some o => o = R' ∧ MInv as ρ0 (mergeF n ρ bs R).1 [] R'
      | none => ∃ bs', MInv as ρ0 (mergeF n ρ bs R).1 bs' R' ∧ liveOf (mergeF n ρ bs R).1 bs' ≠ [] ∧ candOf (mergeF n ρ bs R).1 (liveOf (mergeF n ρ bs R).1 bs') = none)
  | 0, _, _, _, _, h => absurd h (Nat.not_lt_zero _)
  | n + 1, ρ, bs, R, M, h => by
    unfold mergeF
    by_cases hl : liveOf ρ bs = []
    · rw [if_pos hl]
      refine ⟨R, rfl, M.1.trans (List.Sublist.refl _) |> fun _ => { M with sub := List.nil_sublist _, gone := fun a ha _ => Classical.byContradiction fun q => ?_ }⟩
      have := M.live ha q
      rw [hl] at this; cases this
    · rw [if_neg hl]
      cases hc : candOf ρ (liveOf ρ bs) with
      | none => exact ⟨R, bs, M, hl, hc⟩
      | some c => exact merge_end has hn n _ _ _ (M.step has hn hc) (by have := total_next hc; omega)
end
end Mine
end
section
open PySem PyProof.Rows
set_option autoImplicit false
namespace Mine

section
variable {as : List Addr} {ρ0 : Rows}

theorem ahead_of {k x : Nat} : x ∈ aheadOf (as.map ρ0) k ↔ ∃ a ∈ as, Ahead (ρ0 a) x k := by
  unfold aheadOf Ahead
  simp only [List.mem_flatMap, List.mem_filter, List.mem_map, decide_eq_true_eq]
  constructor
  · rintro ⟨l, ⟨⟨a, ha, rfl⟩, hk⟩, hx⟩; exact ⟨a, ha, hk, hx⟩
  · rintro ⟨a, ha, hk, hx⟩; exact ⟨_, ⟨⟨a, ha, rfl⟩, hk⟩, hx⟩
theorem stuck_step {logs : List (List Nat)} {left : List Nat} {k : Nat} : k ∈ stuckStep logs left ↔ k ∈ left ∧ ∃ x ∈ aheadOf logs k, x ∈ left := by
  unfold stuckStep
  rw [List.mem_filter, decide_eq_true_eq]
  refine and_congr_right fun _ => ?_
  constructor
  · intro h
    obtain ⟨x, hx⟩ := List.exists_mem_of_ne_nil _ h
    rw [List.mem_filter, decide_eq_true_eq] at hx
    exact ⟨x, hx⟩
  · rintro ⟨x, h1, h2⟩ h
    have : x ∈ (aheadOf logs k).filter (fun x => decide (x ∈ left)) := List.mem_filter.mpr ⟨h1, by simpa using h2⟩
    rw [h] at this; cases this

theorem MInv.low {ρ : Rows} {bs : List Addr} {R : List Nat} (M : MInv as ρ0 ρ bs R) (m : Nat) : ∀ t k, k ∈ stuckN (as.map ρ0) m t → k ∈ R → t ≤ R.idxOf k
  | 0, _, _, _ => Nat.zero_le _
  | t + 1, k, h, hR => by
    unfold stuckN at h
    obtain ⟨_, x, hx, hl⟩ := stuck_step.mp h
    obtain ⟨a, ha, hA⟩ := ahead_of.mp hx
    have hk : k ∈ R.filter (fun x => decide (x ∈ ρ0 a)) := List.mem_filter.mpr ⟨hR, by simpa using hA.1⟩
    have hA' : Ahead (R.filter (fun x => decide (x ∈ ρ0 a))) x k := ahead_first hk (by rw [M.part a ha]; exact hA)
    have hxR := (List.mem_filter.mp (ahead_mem hA')).1
    have := ahead_filter M.nodup hA'
    have := M.low m t x hl hxR
    omega

theorem stuck_high {logs : List (List Nat)} {m : Nat} {U : Nat → Prop} (h0 : ∀ k, U k → k < m) (h : ∀ k, U k → ∃ x ∈ aheadOf logs k, U x) : ∀ t k, U k → k ∈ stuckN logs m t
  | 0, k, hk => by unfold stuckN; exact List.mem_range.mpr (h0 k hk)
  | t + 1, k, hk => by
    unfold stuckN
    obtain ⟨x, hx, hU⟩ := h k hk
    exact stuck_step.mpr ⟨stuck_high h0 h t k hk, x, hx, stuck_high h0 h t x hU⟩

theorem MInv.lt {ρ : Rows} {bs : List Addr} {R : List Nat} {m : Nat} (M : MInv as ρ0 ρ bs R) (hm : ∀ a ∈ as, ∀ k ∈ ρ0 a, k < m) : ∀ k ∈ R, k < m := fun k hk => by
  obtain ⟨a, ha, h⟩ := M.fro k hk
  exact hm a ha k h
/-- what has been placed is not stuck -/
theorem MInv.placed {ρ : Rows} {bs : List Addr} {R : List Nat} {m : Nat} (M : MInv as ρ0 ρ bs R) (hm : ∀ a ∈ as, ∀ k ∈ ρ0 a, k < m) {k : Nat} (hk : k ∈ R) : k ∉ stuckOf (as.map ρ0) m := fun h => by
  have h1 := M.low m m k h hk
  have h2 := List.idxOf_lt_length_iff.mpr hk
  have h3 := nodup_len m M.nodup (M.lt hm)
  omega

/-- refused -/
theorem MInv.refused {ρ : Rows} {bs : List Addr} {R : List Nat} {m : Nat} (M : MInv as ρ0 ρ bs R) (hn : ∀ a ∈ as, (ρ0 a).Nodup) (hm : ∀ a ∈ as, ∀ k ∈ ρ0 a, k < m) (hl : liveOf ρ bs ≠ []) (hc : candOf ρ (liveOf ρ bs) = none) :
    stuckOf (as.map ρ0) m ≠ [] ∧ as.map ρ = (as.map ρ0).map fun l => l.filter fun k => decide (k ∈ stuckOf (as.map ρ0) m) := by
  have hsub : (liveOf ρ bs).Sublist as := List.filter_sublist.trans M.sub
  have inρ0 : ∀ a ∈ as, ∀ k ∈ ρ a, k ∈ ρ0 a := fun a ha k hk => by rw [← M.part a ha]; exact List.mem_append_right _ hk
  unfold candOf at hc
  rw [Option.map_eq_none_iff, List.find?_eq_none] at hc
  have tailed : ∀ a ∈ as, ∀ k ∈ ρ a, ∃ b ∈ as, ∃ y u, ρ b = y :: u ∧ k ∈ u := by
    intro a ha k hk
    cases e : ρ a with
    | nil => rw [e] at hk; cases hk
    | cons x t =>
      rw [e] at hk
      rcases List.mem_cons.mp hk with rfl | hk
      · have hla := M.live ha (by rw [e]; exact List.cons_ne_nil _ _)
        have := hc a hla
        unfold headOk at this
        rw [List.all_eq_true] at this
        rw [e] at this
        obtain ⟨b, hb⟩ := Classical.not_forall.mp this
        rw [Classical.not_imp] at hb
        obtain ⟨hb, hk⟩ := hb
        obtain ⟨_, y, u, eb⟩ := live_mem hb
        rw [eb] at hk
        exact ⟨b, hsub.subset hb, y, u, eb, by simpa using hk⟩
      · exact ⟨a, ha, x, t, e, hk⟩
  have left : ∀ a ∈ as, ∀ k ∈ ρ a, k ∈ stuckOf (as.map ρ0) m := fun a ha k hk =>
    stuck_high (U := fun k => ∃ a ∈ as, k ∈ ρ a) (fun k ⟨a, ha, hk⟩ => hm a ha k (inρ0 a ha k hk)) (fun k ⟨a, ha, hk⟩ => by
      obtain ⟨b, hb, y, u, e, hu⟩ := tailed a ha k hk
      exact ⟨y, ahead_of.mpr ⟨b, hb, M.tail hn hb e hu⟩, b, hb, by rw [e]; exact List.mem_cons_self⟩) m k ⟨a, ha, hk⟩
  constructor
  · intro h
    obtain ⟨b, hb⟩ := List.exists_mem_of_ne_nil _ hl
    obtain ⟨_, y, u, e⟩ := live_mem hb
    have := left b (hsub.subset hb) y (by rw [e]; exact List.mem_cons_self)
    rw [h] at this; cases this
  · rw [List.map_map]
    refine List.map_congr_left fun a ha => ?_
    show ρ a = (ρ0 a).filter _
    conv => rhs; rw [← M.part a ha]
    rw [List.filter_append, (List.filter_eq_nil_iff (l := R.filter _)).mpr, List.filter_eq_self.mpr, List.nil_append]
    · intro k hk; simpa using left a ha k hk
    · intro k hk
      simpa using M.placed hm (List.mem_filter.mp hk).1

/-- done -/
theorem MInv.done {ρ : Rows} {R : List Nat} {m : Nat} (M : MInv as ρ0 ρ [] R) (hm : ∀ a ∈ as, ∀ k ∈ ρ0 a, k < m) (hall : ∀ k, k < m → ∃ a ∈ as, k ∈ ρ0 a) :
    stuckOf (as.map ρ0) m = [] ∧ (∀ a ∈ as, ρ a = []) ∧ (∀ k, k ∈ R ↔ k < m) ∧ (List.range m).Perm R ∧ (∀ a ∈ as, R.filter (fun x => decide (x ∈ ρ0 a)) = ρ0 a) := by
  have hρ : ∀ a ∈ as, ρ a = [] := fun a ha => M.gone a ha (by simp)
  have part : ∀ a ∈ as, R.filter (fun x => decide (x ∈ ρ0 a)) = ρ0 a := fun a ha => by have := M.part a ha; rwa [hρ a ha, List.append_nil] at this
  have mem : ∀ k, k ∈ R ↔ k < m := fun k => ⟨M.lt hm k, fun h => by
    obtain ⟨a, ha, hk⟩ := hall k h
    rw [← part a ha] at hk
    exact (List.mem_filter.mp hk).1⟩
  refine ⟨?_, hρ, mem, (List.perm_ext_iff_of_nodup List.nodup_range M.nodup).mpr fun k => List.mem_range.trans (mem k).symm, part⟩
  rw [List.eq_nil_iff_forall_not_mem]
  intro k hk
  exact M.placed hm ((mem k).mpr (stuckN_lt _ _ _ _ hk)) hk

/-- the order among deeds that are apart -/
theorem MInv.order {ρ : Rows} {R : List Nat} (M : MInv as ρ0 ρ [] R) {i j k c : Nat} (hij : i < j) (hk : R[j]? = some k) (hc : R[i]? = some c)
    (apart : ∀ l, i ≤ l → l < j → ∀ x, R[l]? = some x → ∀ a ∈ as, k ∈ ρ0 a → x ∉ ρ0 a) : ∀ a ∈ as, k ∈ ρ0 a → ∃ b ∈ as, c ∈ ρ0 b ∧ as.idxOf b ≤ as.idxOf a := by
  have hj := List.getElem?_eq_some_iff.mp hk
  obtain ⟨hjl, ej⟩ := hj
  have ij : R.idxOf k = j := by rw [← ej]; exact M.nodup.idxOf_getElem j hjl
  refine M.choice i c hc k ⟨fun h => ?_, fun a ha hka x hA => ?_⟩
  · obtain ⟨l, hl, e⟩ := List.getElem_of_mem h
    rw [List.length_take] at hl
    rw [List.getElem_take] at e
    have : R.idxOf k = l := by rw [← e]; exact M.nodup.idxOf_getElem l _
    omega
  · have part : R.filter (fun x => decide (x ∈ ρ0 a)) = ρ0 a := by have := M.part a ha; rwa [M.gone a ha (by simp), List.append_nil] at this
    have hA' : Ahead (R.filter (fun x => decide (x ∈ ρ0 a))) x k := by rw [part]; exact hA
    have hlt := ahead_filter M.nodup hA'
    have hxR := (List.mem_filter.mp (ahead_mem hA')).1
    have hlen := List.idxOf_lt_length_iff.mpr hxR
    have hge : R[R.idxOf x]? = some x := by rw [List.getElem?_eq_getElem hlen, List.getElem_idxOf hlen]
    by_cases hi : R.idxOf x < i
    · rw [List.mem_take_iff_getElem]
      exact ⟨R.idxOf x, by omega, List.getElem_idxOf hlen⟩
    · exact absurd (ahead_mem hA) (apart (R.idxOf x) (by omega) (by omega) x hge a ha hka)
end
end Mine
end
section
open PySem PySem.W PyProof.Rows
set_option autoImplicit false
set_option maxRecDepth 100000
set_option maxHeartbeats 1000000
namespace Mine

theorem Read.upd {deeds : Deeds} {bends : List Int} {mode : Nat} {μ : Vars} (R : Read deeds bends mode μ) {x : Str} {d : D} (hx : x ∉ ([("many" : Str), "deeds", "logs", "mode"])) : Read deeds bends mode (upd μ x d) :=
  R.stay fun y hy => if_neg (by rintro rfl; exact hx hy)
theorem logs_ok (deeds : Deeds) (bends : List Int) : LogsOk deeds (logsIn deeds bends) := bends_ok bends (logsOf_ok deeds)
theorem LogsOk.each {deeds : Deeds} {L : List (List Nat)} (h : LogsOk deeds L) {l : List Nat} (hl : l ∈ L) : l.Nodup ∧ ∀ k ∈ l, k < deeds.length := by
  obtain ⟨r, hr, e⟩ := List.getElem_of_mem hl
  have hr' : r < 12 := by rw [h.len] at hr; exact hr
  have e' : L.getD r [] = l := by rw [List.getD_eq_getElem?_getD, List.getElem?_eq_getElem hr, e]; rfl
  exact ⟨e' ▸ h.nodup r hr', fun k hk => ((h.mem r hr' k).mp (e' ▸ hk)).1⟩
theorem LogsOk.small {deeds : Deeds} {L : List (List Nat)} (h : LogsOk deeds L) (hm : deeds.length ≤ 8) : SmallLogs L :=
  ⟨by rw [h.len]; decide, fun l hl => ⟨by have := nodup_len deeds.length (h.each hl).1 (h.each hl).2; omega, fun k hk => by have := (h.each hl).2 k hk; omega⟩⟩

/-- all that stands ahead of the merge -/
structure Full (deeds : Deeds) (bends : List Int) (mode : Nat) (as : List Addr) (μ : Vars) : Prop extends Read deeds bends mode μ where
  vtold : μ "told" = some (.list (deeds.map dl))
  vrows : μ "rows" = some (.list (refs as))
  vbegun : μ "begun" = some (nt mode)
  vstuck : μ "stuck" = some (nl (stuckOf (logsIn deeds bends) deeds.length))

variable {P : Params} {prog : Program} {w : World} {hL : Heap}
theorem law_AB (h : HL P hL) (A : Around) (room : Room A 10) (s : Shared) (script : List Int) (hscript : script.length ≤ 63) {PP : Flow → Shared → Prop} {E : Value → Shared → Prop}
    (hr : ∀ hL' μ deeds bends mode Lp as ρ p p2 p3, HL P hL' → Full deeds bends mode as μ → RowsAt (logsIn deeds bends) Lp as ρ →
      ExS (lcx prog w A hL' P s (gT #[] p2 p3)) μ (kmap (updM noMuts Lp [p]) as ρ) ((bodyAt P 146).drop 13) PP E) :
    ExS (lcx prog w A hL P s (gT #[] #[] #[])) (ofParams ["script"] [li script]) noMuts (bodyAt P 146) PP E := by
  refine law_A h A room s script hscript fun μ deeds bends mode a R ho => ?_
  have LO := logs_ok deeds bends
  have hm8 := R.hmany
  have hmode := R.hmode
  generalize hLs : logsIn deeds bends = L at LO
  generalize hits : itemsOf deeds L mode = items
  have hlen : items.length = deeds.length + 12 + 1 := by rw [← hits]; simp [itemsOf, LO.len]
  have hit : ∀ l ∈ items, l.length < 256 ∧ ∀ n ∈ l, n < 256 := by
    subst hits
    intro l hl
    simp only [itemsOf, List.mem_append, List.mem_map, List.mem_singleton] at hl
    rcases hl with (⟨d, hd, rfl⟩ | hl) | rfl
    · have G := R.good d hd
      refine ⟨by simp [deedRow], fun n hn => ?_⟩
      simp only [deedRow, List.mem_cons, List.not_mem_nil, or_false] at hn
      have := G.one; have := G.two; have := G.octet
      omega
    · have S := (LO.small hm8).each l hl
      exact ⟨by have := S.1; omega, fun n hn => by have := S.2 n hn; omega⟩
    · refine ⟨by simp [modeRow], fun n hn => ?_⟩
      simp only [modeRow, List.mem_cons, List.not_mem_nil, or_false] at hn
      omega
  have hfr : (framed items).length ≤ items.length * 257 := by
    unfold framed
    rw [List.length_flatMap]
    refine sum_le (B := 257) fun l hl => ?_
    have := (hit l hl).1
    simp; omega
  have hsz : (deeds.length :: framed items).length ≤ 16777216 := by simp; omega
  have hoct : octetsOf deeds L mode = deeds.length :: framed items := by rw [octetsOf, hits]
  rw [hoct]
  refine ExS.recast (x := "octets") (ν' := noMuts) ho (if_pos rfl) rfl (fun b k e => by cases e) (fun b q => by cases q) ?_
  refine law_stream h A room s (octets := deeds.length :: framed items) (fun n hn => ?_) hsz (if_pos rfl) fun hL1 ad Lp ps h1 K => ?_
  · rcases List.mem_cons.mp hn with rfl | hn
    · omega
    · obtain ⟨l, hl, hn⟩ := List.mem_flatMap.mp hn
      obtain ⟨q1, q2⟩ := hit l hl
      rcases List.mem_cons.mp hn with rfl | hn
      · exact q1
      · exact q2 n hn
  have e1 : (items.take deeds.length).map nl = deeds.map dl := by
    subst hits
    rw [itemsOf, List.append_assoc, List.take_left' (by simp), List.map_map]
    rfl
  have e2 : (items.drop deeds.length).take 12 = L := by
    subst hits
    rw [itemsOf, List.append_assoc, List.drop_left' (by simp), List.take_left' LO.len]
  have e3 : items[deeds.length + 12]? = some (modeRow mode) := by
    subst hits
    rw [itemsOf, List.getElem?_append_right (by simp [LO.len])]
    simp [LO.len]
  refine law_told h1 A room s (items := items) (m := deeds.length) (by omega) hm8 hsz hit K (if_pos rfl) ?_
  refine law_rows h1 A room s (items := items) (m := deeds.length) (by omega) hm8 hsz hit K rfl fun as ρ RA => ?_
  rw [e2] at RA
  refine law_begun h1 A room s (items := items) (m := deeds.length) hmode e3 hsz K RA.place rfl fun hL2 p p3 h2 => ?_
  obtain ⟨o120, ho120, hfd120⟩ := (stuck_at h2).obj
  have R2 := ((((R.upd (x := "octets") (d := nl (deeds.length :: framed items)) (by decide)).upd (x := "stream") (d := .val (.ref ad)) (by decide)).upd (x := "told") (d := .list ((items.take deeds.length).map nl)) (by decide)).upd (x := "rows") (d := .list (refs as)) (by decide)).upd (x := "begun") (d := nt mode) (by decide)
  have hv := R2.vlogs
  rw [hLs] at hv
  refine ExS.assign (d := nl (stuckOf L deeds.length)) (Ev.callF (Ev.global (lcx_std h2)) ho120 hfd120 (by decide) (EvL.cons (Ev.name hv) (EvL.cons (Ev.name R2.vmany) EvL.nil)) (CallIs.ofPure (room.le (by decide)) (stuck_pure h2 L (LO.small hm8) deeds.length (by omega)))) (lown _) ?_
  refine hr hL2 _ deeds bends mode Lp as ρ p ps p3 h2 { R2.upd (x := "stuck") (d := nl (stuckOf L deeds.length)) (by decide) with vtold := ?_, vrows := rfl, vbegun := rfl, vstuck := ?_ } (by rw [hLs]; exact RA)
  · rw [← e1]; rfl
  · rw [hLs]; rfl
end Mine
end
section
open PySem PySem.W PyProof.Rows
set_option autoImplicit false
set_option maxRecDepth 100000
set_option maxHeartbeats 1000000
namespace Mine
section
variable {c : Cx} {μ : Vars} {ν : Muts} {P : Flow → Shared → Prop} {E : Value → Shared → Prop} {rest : List Stmt}
theorem ExS.ret {e : Expr} {pos : Pos} {d : D} (he : Ev c μ ν e d) (h : ∀ v s, c.F μ ν s → Rep (mask c.H ν s.heap) d v → P (.ret v) s) : ExS c μ ν (.Return (some e) pos :: rest) P E := ⟨Ex.ret he h⟩
/-- try: x = e, with handlers -/
theorem ExS.tryAssign {x : Str} {p pos tpos : Pos} {e : Expr} {h₀ : ExceptHandler} {hs : List ExceptHandler}
    (h : ∀ s, c.F μ ν s → wpAny c.M c.A (eval e c.env) (fun v s₁ => ∃ d ν', FD c μ ν' s₁ ∧ Rep (mask c.H ν' s₁.heap) d v ∧ ExS c (upd μ x d) ν' rest P E)
      (fun er s₁ => wpAny c.M c.A (noteFrame er c.env) (fun _ s₂ => wpAny c.M c.A (setFlight er none) (fun _ s₃ => wpAny c.M c.A (handleBy er c.env (h₀ :: hs)) (thenP c rest P E) E s₃) E s₂) E s₁) s)
    (hk : Own c x) (hsw : swapsWith e (some (.Name x p)) pos.line c.env = pure false := by rfl) : ExS c μ ν (.Try [.Assign [.Name x p] e pos] (h₀ :: hs) [] [] tpos :: rest) P E := by
  refine ⟨Ex.cons fun s F => wpAny_Try_except ?_⟩
  refine wpAny_execs_cons (wpAny_Assign_Name (wpAny_mono (h s F) (fun v s₁ h₁ => ?_) fun _ _ q => q) hsw)
  obtain ⟨d, ν', F₁, r₁, X⟩ := h₁
  refine FD.store F₁ hk r₁ fun s' F' _ => ?_
  exact wpAny_execs_nil (wpAny_execs_nil (X.go s' F'))
theorem Handling.comp {e : Addr} (hh : Handling c e) (scope : Scope) (s : Shared) (C : Addr) (H N : Addr → Prop) (g : View) : Handling { c.comp scope s C H N with g := g } e := ⟨hh.handled, hh.at_, hh.notTab⟩
end
def trySuite : Stmt → List Stmt
  | .Try _ (.ExceptHandler _ _ b _ :: _) _ _ _ => b
  | _ => []

theorem map_kmap {ν0 : Muts} {as : List Addr} {ρ ρ' : Rows} (h : ∀ b ∈ as, ρ b = ρ' b) : kmap ν0 as ρ = kmap ν0 as ρ' := by
  funext b
  by_cases hb : b ∈ as
  · rw [kmap_in hb, kmap_in hb, h b hb]
  · rw [kmap_out hb, kmap_out hb]

variable {P : Params} {prog : Program} {w : World} {hL : Heap}
/-- the handler's suite -/
theorem law_refused (h : HL P hL) (A : Around) (s : Shared) {g : View} {e t : Addr} {u : Tok} (hh : Handling (lcx prog w A hL P s g) e) (he : hL.ExcAt e "RuntimeError" (.ref t)) (htt : t ∉ tabs) (ht : hL.TupAt t [.str refusal u]) (hu : A.units + 8 < cLine)
    {μ : Vars} {ν : Muts} {L : List (List Nat)} {stuck : List Nat} {as : List Addr} {ρ : Rows} (hS : SmallLogs L) (vlogs : μ "logs" = some (nll L)) (vstuck : μ "stuck" = some (nl stuck)) (vrows : μ "rows" = some (.list (refs as))) (vref : μ "refusal" = some (.val (.ref e)))
    (hk : ∀ b ∈ as, ν b = some ((ρ b).map nt)) (hne : stuck ≠ []) (hrows : as.map ρ = L.map fun l => l.filter fun k => decide (k ∈ stuck)) {PP : Flow → Shared → Prop} {E : Value → Shared → Prop}
    (hP : ∀ μ s', FD (lcx prog w A hL P s g) μ ν s' → PP (.ret (.bool true)) s') :
    ExS (lcx prog w A hL P s g) μ ν (trySuite (stmtAt P 146 13)) PP E := by
  have S : Std P (lcx prog w A hL P s g) := lcx_std h
  refine ExS.comp (out := (L.map fun l => l.filter fun k => decide (k ∈ stuck)).map nl) (CompTo.of_eq (CompTo.one nl L (fun _ => true) (fun l => nl (l.filter fun k => decide (k ∈ stuck))) (EvI.listH (Ev.name vlogs) hh) (by kernel_rfl) (by decide) (by have := hS.len; omega) (fun s C H N g a ha => EvT.nil) (fun s1 C H N g l hl _ => ?_)) (by rw [filter_tt, List.map_map]; rfl)) (by kernel_rfl) (lown _) ?_
  · refine CompTo.ev (CompTo.of_eq (CompTo.one nt l (fun k => decide (k ∈ stuck)) nt (EvI.listH (Ev.name (d := nl l) rfl) (hh.comp _ s1 C H N g)) (by kernel_rfl) (by decide) (by have := (hS.each l hl).1; omega) (fun s C H N g k hk => EvT.one (EvB.cmp (Ev.name (d := nt k) rfl) (Ev.name (d := nl stuck) vstuck) (op_inN (LD.data _)))) (fun s2 C H N g k hk _ => Ev.name (d := nt k) rfl)) rfl) (by kernel_rfl)
  refine ExS.ret (d := .bool true) (Ev.of_eq (Ev.and (EvV.cons (b := true) (Ev.of_eq (Ev.cmp (Ev.of_eq (Ev.name (d := nl stuck) vstuck) (li_ofN stuck).symm) (Ev.list (ds := []) EvL.nil) (op_ne_liU (b := []) hu)) ?_) fun _ => EvV.cons (b := true) (Ev.of_eq (Ev.cmp (Ev.name (d := .list (refs as)) vrows) (Ev.name (d := nll (L.map fun l => l.filter fun k => decide (k ∈ stuck))) rfl) (op_eq_read hu (fun s v F r => read_refs hk F r) fun s v F r => read_data r)) ?_) fun _ => EvV.one (b := true)
    (Ev.of_eq (Ev.cmp (Ev.callT (Ev.builtin S (by kernel_rfl)) (EvL.cons (Ev.name (d := .val (.ref e)) vref) EvL.nil) (call_strExc hu he hh.notTab ht htt)) Ev.str op_eqS) ?_))) rfl) fun v s' F r => ?_
  · congr 1
    simp [ofN, hne]
  · rw [hrows]; simp
  · congr 1
  · simp only [Rep] at r
    subst r
    exact hP _ s' F

theorem MInv.start {as : List Addr} {ρ : Rows} : MInv as ρ ρ as [] where
  sub := List.Sublist.refl _
  gone := fun a ha h => absurd ha h
  part := fun a ha => rfl
  nodup := List.nodup_nil
  fro := fun k h => by cases h
  choice := fun i c h => by simp at h
theorem total_le {ρ : Rows} {B : Nat} : ∀ {as : List Addr}, (∀ b ∈ as, (ρ b).length ≤ B) → total ρ as ≤ as.length * B := fun h => sum_le h

/-- the merge, and its refusal -/
theorem law_try (h : HL P hL) (A : Around) (room : Room A 10) (s : Shared) (hfr : A.frames = some [callEnvC (fdAt P 146) s.heap.objs.size 146]) {deeds : Deeds} {bends : List Int} {mode : Nat} {as : List Addr} {ρ : Rows} {Lp : Addr} {p : D} {p1 p2 p3 : Array Value} {μ : Vars}
    (Fu : Full deeds bends mode as μ) (RA : RowsAt (logsIn deeds bends) Lp as ρ)
    (hr : ∀ R ρ₁ ρ', RowsAt (logsIn deeds bends) Lp as ρ₁ → MInv as ρ₁ ρ' [] R →
      ExS (lcx prog w A hL P s (gT p1 p2 p3)) (upd μ "merged" (nl R)) (kmap (updM noMuts Lp [p]) as ρ') ((bodyAt P 146).drop 14) (LawEnd s) (fun _ _ => False)) :
    ExS (lcx prog w A hL P s (gT p1 p2 p3)) μ (kmap (updM noMuts Lp [p]) as ρ) ((bodyAt P 146).drop 13) (LawEnd s) (fun _ _ => False) := by
  have S : Std P (lcx prog w A hL P s (gT p1 p2 p3)) := lcx_std h
  obtain ⟨o28, ho28, hfd28⟩ := (merge_at h).obj
  have LO := logs_ok deeds bends
  have LS := LO.small Fu.hmany
  have inL : ∀ a ∈ as, ρ a ∈ logsIn deeds bends := fun a ha => by rw [← RA.map]; exact List.mem_map.mpr ⟨a, ha, rfl⟩
  have asl : as.length = 12 := by rw [← LO.len, ← RA.map, List.length_map]
  let ρ₁ : Rows := fun b => if b ∈ as then ρ b else []
  have e₁ : ∀ b ∈ as, ρ b = ρ₁ b := fun b hb => (if_pos hb).symm
  have k₁ : kmap (updM noMuts Lp [p]) as ρ = kmap (updM noMuts Lp [p]) as ρ₁ := map_kmap e₁
  have len₁ : ∀ b, (ρ₁ b).length ≤ 64 := fun b => by
    by_cases hb : b ∈ as
    · rw [← e₁ b hb]; exact (LS.each _ (inL b hb)).1
    · show (if b ∈ as then ρ b else []).length ≤ 64
      rw [if_neg hb]; decide
  have tot : total ρ₁ as ≤ 12 * 64 := by rw [← asl]; exact total_le fun b _ => len₁ b
  have hn : ∀ a ∈ as, (ρ₁ a).Nodup := fun a ha => by rw [← e₁ a ha]; exact (LO.each (inL a ha)).1
  have hm : ∀ a ∈ as, ∀ k ∈ ρ₁ a, k < deeds.length := fun a ha => by rw [← e₁ a ha]; exact (LO.each (inL a ha)).2
  have map₁ : as.map ρ₁ = logsIn deeds bends := by rw [← RA.map]; exact List.map_congr_left fun b hb => (e₁ b hb).symm
  obtain ⟨R, hend⟩ := merge_end RA.nodup hn (total ρ₁ as + 1) ρ₁ as [] MInv.start (Nat.lt_succ_self _)
  rw [k₁]
  refine ExS.known fun hnew => ?_
  have ours₁ : ∀ b ∈ as, (kmap (updM noMuts Lp [p]) as ρ₁ b).isSome = true ∧ s.heap.get? b = none := fun b hb => by
    have q : (kmap (updM noMuts Lp [p]) as ρ₁ b).isSome = true := by rw [kmap_in hb]; rfl
    exact ⟨q, (hnew b q).resolve_left (by intro z; cases z)⟩
  refine ExS.tryAssign (fun s₁ F₁ => ?_) (lown _)
  refine eval_callF F₁ (Ev.global S) ho28 hfd28 (by decide) (EvL.cons (Ev.name (d := .list (refs as)) Fu.vrows) EvL.nil) fun s₂ vs k₂ r₂ => ?_
  have F₂ := F₁.keeps k₂
  have hX : MayX (lcx prog w A hL P s (gT p1 p2 p3)) (kmap (updM noMuts Lp [p]) as ρ₁) s₂ (· ∈ as) := fun b hb => Or.inl ⟨(ours₁ b hb).1, Or.inr (ours₁ b hb).2⟩
  have dict : DictFrames s₂.heap [callEnvC (fdAt P 146) s.heap.objs.size 146] := by
    intro env he
    rw [List.mem_singleton] at he
    subst he
    obtain ⟨_, _, ⟨o, es, ep, ho, hd, _⟩, _⟩ := F₂.vars
    exact ⟨by rw [show (callEnvC (fdAt P 146) s.heap.objs.size 146).scope.kind = .function from F₂.fn]; simp, _, o, rfl, ho, es, ep, hd⟩
  refine wpAny_call (codeAny_mono (merge_call h A s₂ vs (fun _ => False) (kmap (updM noMuts Lp [p]) as ρ₁) as ρ₁ [callEnvC (fdAt P 146) s.heap.objs.size 146] (room.le (by decide)) F₂.lib (fun _ q => q.elim) (fun _ q => q.elim) F₂.muts F₂.mutH (fun b hb => kmap_in hb) RA.nodup (by omega) len₁ (by omega) r₂ hfr dict (total ρ₁ as + 1) (Nat.lt_succ_self _)) fun r s' hm' => ?_)
  unfold MergeEnd at hm'
  have kk : ∀ ρ' : Rows, kmap (kmap (updM noMuts Lp [p]) as ρ₁) as ρ' = kmap (updM noMuts Lp [p]) as ρ' := fun ρ' => by
    funext b
    by_cases hb : b ∈ as
    · rw [kmap_in hb, kmap_in hb]
    · rw [kmap_out hb, kmap_out hb, kmap_out hb]
  cases hq : (mergeF (total ρ₁ as + 1) ρ₁ as []).2 with
  | some o =>
    rw [hq] at hm' hend
    obtain ⟨rfl, M⟩ := hend
    obtain ⟨a, ha, hνa, rfl, eff⟩ := hm'
    have F₃ := F₂.back eff hX
    rw [kk] at F₃
    generalize (mergeF (total ρ₁ as + 1) ρ₁ as []).1 = ρ' at *
    have h0 : kmap (updM noMuts Lp [p]) as ρ' a = none := by rw [kmap_out ha]; rwa [kmap_out ha] at hνa
    have hle : ∀ b k, kmap (updM noMuts Lp [p]) as ρ' b = some k → updM (kmap (updM noMuts Lp [p]) as ρ') a (o.map nt) b = some k := fun b k q => by
      rw [updM_off]
      · exact q
      · rintro rfl; rw [h0] at q; cases q
    exact ⟨nl o, _, F₃.forget hle (fun b q => by cases q), F₃.asData hle (if_pos rfl) h0 (fun q => q), hr o ρ₁ ρ' ⟨RA.nodup, RA.place, map₁⟩ M⟩
  | none =>
    rw [hq] at hm' hend
    obtain ⟨bs', M, hlive, hcand⟩ := hend
    obtain ⟨e, t, u, L, a, l, sm, h', rfl, ha, hνa, eff, hL0, hN, rfl, hfly, htup, htb, hup⟩ := hm'
    have F₃ := F₂.back eff hX
    have hst := M.refused hn hm hlive hcand
    rw [map₁] at hst
    generalize (mergeF (total ρ₁ as + 1) ρ₁ as []).1 = ρ' at *
    have hd : ∀ b, (updM (kmap (kmap (updM noMuts Lp [p]) as ρ₁) as ρ') a l b).isSome = true ↔ b ∈ a :: Lp :: as := fun b => by
      rw [kk]
      by_cases hb : b = a
      · subst hb; simp [updM]
      · rw [updM_off hb, kmap_dom, List.mem_cons (b := a)]
        exact ⟨Or.inr, fun q => q.resolve_left hb⟩
    have O := ownAll (as := a :: Lp :: as) F₃ (fun _ => rfl) (fun _ q => q) hd
    have hK := ownK_live (as := a :: Lp :: as) F₃ fun b hb => (hd b).mpr hb
    refine caught (n := "refusal") F₂ eff hX hL0 hN hfr rfl hfly htup htb hup S O hK (by kernel_rfl) (by kernel_rfl) (by kernel_rfl) fun hL₂ h₂ hh he ht htt => ?_
    refine (law_refused (g := gT p1 p2 p3) (μ := upd μ "refusal" (.val (.ref e))) h₂ (A.mark (some (.ref e))) s hh he htt ht (by have := room.units; simpa using (by omega : A.units + 8 < cLine)) LS Fu.vlogs Fu.vstuck Fu.vrows (if_pos rfl) (fun b hb => ?_) hst.1 hst.2 fun μ' s₄ F₄ => ?_).go
    · rw [kk, updM_off (fun q : b = a => ha (q ▸ hb)), kmap_in hb]
    · refine FD.endSuite (c := lcx prog w A hL₂ P s (gT p1 p2 p3)) (F₄.withA A) (by kernel_rfl) fun s₅ F₅ => ?_
      exact ⟨rfl, F₅.done (fun b hb q => hb q) rfl⟩
end Mine
end
section
open PySem PySem.W PyProof.Rows
set_option autoImplicit false
set_option maxRecDepth 100000
set_option maxHeartbeats 1000000
namespace Mine
section
variable {c : Cx} {μ : Vars} {ν : Muts} {P : Flow → Shared → Prop} {E : Value → Shared → Prop} {rest : List Stmt}
theorem ExS.pass {test : Expr} {body : List Stmt} {pos : Pos} (ht : EvB c μ ν test false) (hr : ExS c μ ν rest P E) : ExS c μ ν (.If test body [] pos :: rest) P E :=
  ⟨Ex.ite ht (fun q => by cases q) fun _ => Ex.nil (Ex.then hr.go)⟩
theorem ExS.forget {ν' : Muts} {b : List Stmt} (hle : ∀ a l, ν' a = some l → ν a = some l) (hd : ∀ a, c.N a → (ν' a).isSome = true) (hr : ExS c μ ν' b P E) : ExS c μ ν b P E := ⟨fun s F => hr.go s (F.forget hle hd)⟩
end

def pairOf (deeds : Deeds) (k : Nat) : List Nat := [(deeds.getD k (0, 0, 0)).1, (deeds.getD k (0, 0, 0)).2.1]
/-- what stands behind the checks -/
structure Merged (deeds : Deeds) (bends : List Int) (mode : Nat) (R : List Nat) (μ : Vars) : Prop extends Read deeds bends mode μ where
  vtold : μ "told" = some (.list (deeds.map dl))
  vbegun : μ "begun" = some (nt mode)
  vmerged : μ "merged" = some (nl R)
  vpairs : μ "pairs" = some (nll (R.map (pairOf deeds)))
/-- what is known of the order -/
structure OrderOk (deeds : Deeds) (L : List (List Nat)) (R : List Nat) : Prop where
  mem : ∀ k, k ∈ R ↔ k < deeds.length
  nodup : R.Nodup
  part : ∀ l ∈ L, R.filter (fun k => decide (k ∈ l)) = l
  order : ∀ (i j k c : Nat), i < j → R[j]? = some k → R[i]? = some c → (∀ (l : Nat), i ≤ l → l < j → ∀ x, R[l]? = some x → ∀ (r : Nat), r < 12 → k ∈ L.getD r [] → x ∉ L.getD r []) → ∀ (r : Nat), r < 12 → k ∈ L.getD r [] → ∃ q, q ≤ r ∧ c ∈ L.getD q []

theorem idx_at {as : List Addr} {ρ : Rows} {L : List (List Nat)} (h : as.map ρ = L) {r : Nat} {a : Addr} (ha : as[r]? = some a) : L.getD r [] = ρ a := by
  rw [← h, List.getD_eq_getElem?_getD, List.getElem?_map, ha]; rfl
theorem order_ok {deeds : Deeds} {L : List (List Nat)} (LO : LogsOk deeds L) (hg : ∀ d ∈ deeds, GoodDeed d) {Lp : Addr} {as : List Addr} {ρ ρ' : Rows} (RA : RowsAt L Lp as ρ) {R : List Nat} (M : MInv as ρ ρ' [] R) :
    stuckOf L deeds.length = [] ∧ (∀ a ∈ as, ρ' a = []) ∧ (List.range deeds.length).Perm R ∧ OrderOk deeds L R := by
  have asl : as.length = 12 := by rw [← LO.len, ← RA.map, List.length_map]
  have inL : ∀ a ∈ as, ρ a ∈ L := fun a ha => by rw [← RA.map]; exact List.mem_map.mpr ⟨a, ha, rfl⟩
  have at_ : ∀ r, r < 12 → ∃ a, as[r]? = some a ∧ a ∈ as := fun r hr => ⟨as[r], List.getElem?_eq_getElem (by omega), List.getElem_mem _⟩
  have hall : ∀ k, k < deeds.length → ∃ a ∈ as, k ∈ ρ a := fun k hk => by
    have hd : deeds.getD k (0, 0, 0) ∈ deeds := by rw [List.getD_eq_getElem?_getD, List.getElem?_eq_getElem hk]; exact List.getElem_mem _
    obtain ⟨a, e, ha⟩ := at_ (deeds.getD k (0, 0, 0)).1 (hg _ hd).one
    refine ⟨a, ha, ?_⟩
    rw [← idx_at RA.map e, LO.mem _ (hg _ hd).one]
    exact ⟨hk, Or.inl rfl⟩
  obtain ⟨h1, h2, h3, h4, h5⟩ := M.done (fun a ha => (LO.each (inL a ha)).2) hall
  rw [RA.map] at h1
  refine ⟨h1, h2, h4, h3, M.nodup, fun l hl => ?_, fun i j k c hij hk hc ap r hr hkr => ?_⟩
  · rw [← RA.map] at hl
    obtain ⟨a, ha, rfl⟩ := List.mem_map.mp hl
    exact h5 a ha
  · obtain ⟨a, e, ha⟩ := at_ r hr
    rw [idx_at RA.map e] at hkr
    obtain ⟨b, hb, hcb, hle⟩ := M.order hij hk hc (fun l h1 h2 x hx a' ha' hka => by
      obtain ⟨r', hr', e'⟩ := List.getElem_of_mem ha'
      have e2 : as[r']? = some a' := by rw [List.getElem?_eq_getElem hr', e']
      have := ap l h1 h2 x hx r' (by omega) (by rw [idx_at RA.map e2]; exact hka)
      rwa [idx_at RA.map e2] at this) a ha hkr
    have hbi := List.idxOf_lt_length_iff.mpr hb
    refine ⟨as.idxOf b, ?_, ?_⟩
    · have : as.idxOf a = r := by
        obtain ⟨h, q⟩ := List.getElem?_eq_some_iff.mp e
        rw [← q]; exact RA.nodup.idxOf_getElem r h
      omega
    · rw [idx_at RA.map (a := b) (by rw [List.getElem?_eq_getElem hbi, List.getElem_idxOf hbi])]
      exact hcb

variable {P : Params} {prog : Program} {w : World} {hL : Heap}
/-- the checks behind the merge -/
theorem law_checks (h : HL P hL) (A : Around) (room : Room A 10) (s : Shared) {deeds : Deeds} {bends : List Int} {mode : Nat} {as : List Addr} {ρ' : Rows} {Lp : Addr} {p : D} {g : View} {μ : Vars} {R : List Nat} {PP : Flow → Shared → Prop} {E : Value → Shared → Prop}
    (Fu : Full deeds bends mode as μ) (vm : μ "merged" = some (nl R)) (asl : as.length = 12) (hst : stuckOf (logsIn deeds bends) deeds.length = []) (hρ : ∀ a ∈ as, ρ' a = []) (hp : (List.range deeds.length).Perm R) (OK : OrderOk deeds (logsIn deeds bends) R)
    (hr : ∀ μ, Merged deeds bends mode R μ → ExS (lcx prog w A hL P s g) μ noMuts ((bodyAt P 146).drop 17) PP E) :
    ExS (lcx prog w A hL P s g) μ (kmap (updM noMuts Lp [p]) as ρ') ((bodyAt P 146).drop 14) PP E := by
  have S : Std P (lcx prog w A hL P s g) := lcx_std h
  have hh : (lcx prog w A hL P s g).A.handled = none := room.handled
  have r0 : Room (lcx prog w A hL P s g).A 0 := room.le (by decide)
  have hu : (lcx prog w A hL P s g).A.units + 8 < cLine := by have := r0.units; omega
  have hm8 := Fu.hmany
  have LS := (logs_ok deeds bends).small hm8
  have hRl : R.length = deeds.length := by have := hp.length_eq; simpa using this.symm
  have vst := Fu.vstuck
  rw [hst] at vst
  refine ExS.pass (EvB.of_eq (EvB.or (EvOr.cons (b := false) (EvB.of_eq (EvB.cmp (Ev.name vst) (Ev.list (ds := []) EvL.nil) (op_ne_nl (b := []) r0)) (by simp)) fun _ => EvOr.cons (b := false) (EvB.of_eq (EvB.not (EvB.bool (b := true) (Ev.callB (Ev.builtin S (by kernel_rfl)) (EvL.cons (Ev.name vm) (EvL.cons (Ev.builtin S (by kernel_rfl)) EvL.nil)) (call_isList (LD.data _))))) rfl) fun _ =>
    EvOr.cons (b := false) (EvB.of_eq (EvB.cmp (Ev.name Fu.vrows) (Ev.of_eq (d' := nll (List.replicate 12 [])) (Ev.bin (Ev.list (ds := [nl []]) (EvL.cons (Ev.list (ds := []) EvL.nil) EvL.nil)) (Ev.int (i := 12)) (op_rep (by decide) (by decide) (by decide))) (by rfl)) (op_ne_read (a := as.map ρ') (b := List.replicate 12 []) hu (fun s v F r => read_refs (fun b hb => kmap_in hb) F r) fun s v F r => read_data r)) ?_) fun _ =>
    EvOr.cons (b := false) (EvB.of_eq (EvB.cmp (Ev.callB (Ev.builtin S (by kernel_rfl)) (EvL.cons (Ev.of_eq (Ev.name vm) (li_ofN R).symm) EvL.nil) (call_sorted (ns := ofN R) (ms := ofN (List.range deeds.length)) (LD.data _) (by simp; omega) (hp.map _) ?_)) (Ev.of_eq (Ev.listRangeN (Ev.builtin S (by kernel_rfl)) (Ev.builtin S (by kernel_rfl)) (Ev.name Fu.vmany) hh (by omega)) (li_ofN _).symm) (op_ne_li (a := ofN (List.range deeds.length)) (b := ofN (List.range deeds.length)) r0)) (by simp)) fun _ => EvOr.nil)) rfl) ?_
  · have : as.map ρ' = List.replicate 12 [] := by
      rw [← asl]
      exact List.eq_replicate_iff.mpr ⟨by simp, fun l hl => by obtain ⟨a, ha, rfl⟩ := List.mem_map.mp hl; exact hρ a ha⟩
    simp [this]
  · rw [List.pairwise_map]
    exact List.pairwise_lt_range.imp fun q => by omega
  refine ExS.forget (ν' := noMuts) (fun a l e => by cases e) (fun a q => q) ?_
  refine ExS.pass (EvB.of_eq (EvB.cmp (CompTo.ev (CompTo.of_eq (out' := ((logsIn deeds bends).map fun l => R.filter fun k => decide (k ∈ l)).map nl) (CompTo.one nl (logsIn deeds bends) (fun _ => true) (fun l => nl (R.filter fun k => decide (k ∈ l))) (EvI.list (Ev.name Fu.vlogs) hh) (by kernel_rfl) (by decide) (by have := LS.len; omega) (fun s C H N g a ha => EvT.nil) (fun s1 C H N g l hl _ => ?_)) (by rw [filter_tt, List.map_map]; rfl)) (by kernel_rfl)) (Ev.name Fu.vlogs) (op_ne_nll (a := (logsIn deeds bends).map fun l => R.filter fun k => decide (k ∈ l)) r0)) ?_) ?_
  · exact CompTo.ev (CompTo.of_eq (CompTo.one nt R (fun k => decide (k ∈ l)) nt (EvI.list (Ev.name (d := nl R) vm) (by exact hh)) (by kernel_rfl) (by decide) (by omega) (fun s C H N g k hk => EvT.one (EvB.cmp (Ev.name (d := nt k) rfl) (Ev.name (d := nl l) rfl) (op_inN (LD.data _)))) (fun s2 C H N g k hk _ => Ev.name (d := nt k) rfl)) rfl) (by kernel_rfl)
  · have : (logsIn deeds bends).map (fun l => R.filter fun k => decide (k ∈ l)) = logsIn deeds bends := by
      conv => rhs; rw [← List.map_id (logsIn deeds bends)]
      exact List.map_congr_left fun l hl => OK.part l hl
    rw [this]; simp
  refine ExS.assign (d := nll (R.map (pairOf deeds))) (CompTo.ev (CompTo.of_eq (CompTo.one nt R (fun _ => true) (fun k => nl (pairOf deeds k)) (EvI.list (Ev.name (d := nl R) vm) hh) (by kernel_rfl) (by decide) (by omega) (fun s C H N g a ha => EvT.nil) (fun s1 C H N g k hk _ => ?_)) (by rw [filter_tt, List.map_map]; rfl)) (by kernel_rfl)) (lown _) ?_
  · have hkm := (OK.mem k).mp hk
    refine Ev.of_eq (Ev.upto (l := [(deeds.getD k (0, 0, 0)).1, (deeds.getD k (0, 0, 0)).2.1, (deeds.getD k (0, 0, 0)).2.2]) (k := 2) (Ev.itemN (d := dl (deeds.getD k (0, 0, 0))) (Ev.name (d := .list (deeds.map dl)) Fu.vdeeds) (Ev.name (d := nt k) rfl) (LD.data _) ?_ (by simp; omega)) (LD.data _) (Ev.nat 2) (by simp)) rfl
    rw [List.getElem?_map, List.getD_eq_getElem?_getD, List.getElem?_eq_getElem hkm]; rfl
  exact hr _ { Fu.toRead.upd (x := "pairs") (d := nll (R.map (pairOf deeds))) (by decide) with vtold := Fu.vtold, vbegun := Fu.vbegun, vmerged := vm, vpairs := rfl }
end Mine
end
section
open PySem PySem.W PyProof.Rows
set_option autoImplicit false
set_option maxRecDepth 100000
set_option maxHeartbeats 1000000
namespace Mine
def mnOf (deeds : Deeds) (k : Nat) : Nat := min (deeds.getD k (0, 0, 0)).1 (deeds.getD k (0, 0, 0)).2.1
theorem good_at {deeds : Deeds} (hg : ∀ d ∈ deeds, GoodDeed d) {k : Nat} (hk : k < deeds.length) : GoodDeed (deeds.getD k (0, 0, 0)) := hg _ (by rw [List.getD_eq_getElem?_getD, List.getElem?_eq_getElem hk]; exact List.getElem_mem _)
theorem in_pair {deeds : Deeds} {L : List (List Nat)} (LO : LogsOk deeds L) {r k : Nat} (hr : r < 12) (hk : k < deeds.length) : k ∈ L.getD r [] ↔ r ∈ pairOf deeds k := by
  rw [LO.mem r hr k]; simp [pairOf, hk]
theorem apart_min {deeds : Deeds} {L : List (List Nat)} {R : List Nat} (LO : LogsOk deeds L) (hg : ∀ d ∈ deeds, GoodDeed d) (OK : OrderOk deeds L R) {i j k c : Nat} (hij : i < j) (hk : R[j]? = some k) (hc : R[i]? = some c)
    (ap : (((R.map (pairOf deeds)).take j).drop i).flatMap (fun pr => pr.filter fun x => decide (x ∈ pairOf deeds k)) = []) : mnOf deeds c ≤ mnOf deeds k := by
  have lt : ∀ {l x : Nat}, R[l]? = some x → x < deeds.length := fun h => (OK.mem _).mp (List.mem_of_getElem? h)
  have G := good_at hg (lt hk)
  have hmin : mnOf deeds k < 12 ∧ mnOf deeds k ∈ pairOf deeds k := by
    have h1 := G.one
    have h2 := G.two
    unfold mnOf pairOf
    rcases Nat.le_total (deeds.getD k (0, 0, 0)).1 (deeds.getD k (0, 0, 0)).2.1 with q | q
    · rw [Nat.min_eq_left q]; exact ⟨h1, by simp⟩
    · rw [Nat.min_eq_right q]; exact ⟨h2, by simp⟩
  obtain ⟨q, hq, hcq⟩ := OK.order i j k c hij hk hc (fun l h1 h2 x hx r hr hkr hxr => by
    rw [in_pair LO hr (lt hk)] at hkr
    rw [in_pair LO hr (lt hx)] at hxr
    have hm : pairOf deeds x ∈ ((R.map (pairOf deeds)).take j).drop i := by
      rw [List.mem_iff_getElem?]
      refine ⟨l - i, ?_⟩
      rw [List.getElem?_drop, List.getElem?_take, if_pos (by omega), List.getElem?_map, show i + (l - i) = l by omega, hx]; rfl
    have : r ∈ (((R.map (pairOf deeds)).take j).drop i).flatMap (fun pr => pr.filter fun x => decide (x ∈ pairOf deeds k)) := List.mem_flatMap.mpr ⟨_, hm, List.mem_filter.mpr ⟨hxr, by simpa using hkr⟩⟩
    rw [ap] at this; cases this) (mnOf deeds k) hmin.1 ((in_pair LO hmin.1 (lt hk)).mpr hmin.2)
  rw [in_pair LO (by omega) (lt hc)] at hcq
  have : mnOf deeds c ≤ q := by
    simp only [pairOf, List.mem_cons, List.not_mem_nil, or_false] at hcq
    unfold mnOf
    omega
  omega

def keepNames : List Str := ["many", "deeds", "logs", "mode", "told", "begun", "merged", "pairs"]
theorem Merged.stay {deeds : Deeds} {bends : List Int} {mode : Nat} {R : List Nat} {μ μ' : Vars} (Me : Merged deeds bends mode R μ) (h : ∀ x ∈ keepNames, μ' x = μ x) : Merged deeds bends mode R μ' where
  toRead := Me.toRead.stay fun x hx => h x (by revert hx; simp only [keepNames, List.mem_cons, List.not_mem_nil, or_false]; rintro (q | q | q | q) <;> simp [q])
  vtold := (h _ (by decide)).trans Me.vtold
  vbegun := (h _ (by decide)).trans Me.vbegun
  vmerged := (h _ (by decide)).trans Me.vmerged
  vpairs := (h _ (by decide)).trans Me.vpairs
theorem keep_upd {μ μ' : Vars} (h : ∀ x ∈ keepNames, μ' x = μ x) {y : Str} {d : D} (hy : y ∉ keepNames) : ∀ x ∈ keepNames, upd μ' y d x = μ x := fun x hx => by
  rw [← h x hx]
  exact if_neg (by rintro rfl; exact hy hx)
theorem min_two (a b : Nat) : IsMin (ofN [a, b]) ((min a b : Nat) : Int) := by
  refine ⟨?_, fun x hx => ?_⟩
  · simp only [ofN, List.map_cons, List.map_nil, List.mem_cons, List.not_mem_nil, or_false]
    omega
  · simp only [ofN, List.map_cons, List.map_nil, List.mem_cons, List.not_mem_nil, or_false] at hx
    omega

variable {P : Params} {prog : Program} {w : World} {hL : Heap}
/-- the look at the order -/
theorem law_order (h : HL P hL) (A : Around) (room : Room A 10) (s : Shared) {deeds : Deeds} {bends : List Int} {mode : Nat} {g : View} {μ : Vars} {R : List Nat} {PP : Flow → Shared → Prop} {E : Value → Shared → Prop}
    (Me : Merged deeds bends mode R μ) (OK : OrderOk deeds (logsIn deeds bends) R) (hRl : R.length = deeds.length)
    (hr : ∀ μ, Merged deeds bends mode R μ → ExS (lcx prog w A hL P s g) μ noMuts ((bodyAt P 146).drop 18) PP E) :
    ExS (lcx prog w A hL P s g) μ noMuts ((bodyAt P 146).drop 17) PP E := by
  have S : Std P (lcx prog w A hL P s g) := lcx_std h
  have hh : A.handled = none := room.handled
  have r0 : Room A 0 := room.le (by decide)
  have hm8 := Me.hmany
  have LO := logs_ok deeds bends
  refine ExS.forLoop (ds := (List.range deeds.length).map nt) (fun _ μ' ν' => (∀ x ∈ keepNames, μ' x = μ x) ∧ ν' = noMuts) (fun _ _ => False) (EvI.rangeN (Ev.builtin S (by kernel_rfl)) (Ev.name Me.vmany) hh (by omega)) (lown _) ⟨fun _ _ => rfl, rfl⟩ ?_ (fun _ _ q => q.elim) ?_
  · rintro g1 n d μ1 ν1 hd ⟨k1, rfl⟩
    obtain ⟨j, hj, rfl⟩ := map_get hd
    have hjm : j < deeds.length := List.mem_range.mp (List.mem_of_getElem? hj)
    have S1 : Std P (lcx prog w A hL P s g1) := lcx_std h
    have hk : R[j]? = some R[j] := List.getElem?_eq_getElem (by omega)
    generalize R[j] = k at hk
    refine ExS.forLoop (c := lcx prog w A hL P s g1) (ds := (List.range j).map nt) (fun _ μ' ν' => ((∀ x ∈ keepNames, μ' x = μ x) ∧ μ' "j" = some (nt j)) ∧ ν' = noMuts) (fun _ _ => False) (EvI.rangeN (Ev.builtin S1 (by kernel_rfl)) (Ev.name (d := nt j) rfl) hh (by omega)) (lown _) ⟨⟨keep_upd k1 (by decide), rfl⟩, rfl⟩ ?_ (fun _ _ q => q.elim) ?_
    · rintro g2 n2 d2 μ2 ν2 hd2 ⟨⟨k2, hj2⟩, rfl⟩
      obtain ⟨i, hi, rfl⟩ := map_get hd2
      have hij : i < j := List.mem_range.mp (List.mem_of_getElem? hi)
      have S2 : Std P (lcx prog w A hL P s g2) := lcx_std h
      have hc : R[i]? = some R[i] := List.getElem?_eq_getElem (by omega)
      generalize R[i] = c at hc
      have vp : μ2 "pairs" = some (nll (R.map (pairOf deeds))) := (k2 _ (by decide)).trans Me.vpairs
      have pk : ((R.map (pairOf deeds)).map nl)[j]? = some (nl (pairOf deeds k)) := by rw [List.getElem?_map, List.getElem?_map, hk]; rfl
      have pc : ((R.map (pairOf deeds)).map nl)[i]? = some (nl (pairOf deeds c)) := by rw [List.getElem?_map, List.getElem?_map, hc]; rfl
      have hpl : ((R.map (pairOf deeds)).map nl).length ≤ 16777216 := by simp; omega
      have sl : ((((R.map (pairOf deeds)).take j).drop i).map fun d => d.length).sum < 16777216 := by
        have q : ((((R.map (pairOf deeds)).take j).drop i).map fun d => d.length).sum ≤ (((R.map (pairOf deeds)).take j).drop i).length * 2 := sum_le fun l hl => by
          obtain ⟨x, _, rfl⟩ := List.mem_map.mp (List.mem_of_mem_take (List.mem_of_mem_drop hl))
          simp [pairOf]
        have q2 : (((R.map (pairOf deeds)).take j).drop i).length ≤ 8 := by simp; omega
        omega
      show ExS (lcx prog w A hL P s g2) _ _ _ _ _
      refine ExS.assign (d := .bool (decide ((((R.map (pairOf deeds)).take j).drop i).flatMap (fun pr => pr.filter fun x => decide (x ∈ pairOf deeds k)) = []))) (Ev.cmp (CompTo.ev (CompTo.of_eq (out' := ((((R.map (pairOf deeds)).take j).drop i).flatMap (fun pr => pr.filter fun x => decide (x ∈ pairOf deeds k))).map nt) (CompTo.two nl nt (((R.map (pairOf deeds)).take j).drop i) (fun _ => true) (fun pr => pr) (fun _ x => decide (x ∈ pairOf deeds k)) (fun _ x => nt x)
        (EvI.list (Ev.run (i := i) (j := j) (Ev.name vp) (LD.data _) (Ev.name (d := nt i) rfl) (Ev.name (d := nt j) hj2) (by simpa using hpl)) hh) (by kernel_rfl) (by decide) (by decide) (by decide) sl (fun s C H N g a ha => EvT.nil) (fun s3 C H N g pr hpr _ => EvI.list (Ev.name (d := nl pr) rfl) (by exact hh))
        (fun s3 C H N g pr x hpr _ hx => EvT.one (EvB.cmp (Ev.name (d := nt x) rfl) (Ev.itemN (d := nl (pairOf deeds k)) (Ev.name (d := nll (R.map (pairOf deeds))) vp) (Ev.name (d := nt j) hj2) (LD.data _) pk hpl) (op_inN (LD.data _)))) (fun s3 C H N g pr x hpr _ hx _ => Ev.name (d := nt x) rfl)) (by rw [filter_tt, List.map_flatMap])) (by kernel_rfl)) (Ev.list (ds := []) EvL.nil) (op_eq_nl (b := []) r0)) (lown _) ?_
      refine ExS.pass (EvB.of_eq (EvB.and (EvAnd.cons (EvB.bool (Ev.name rfl)) fun hb => EvAnd.cons (b := false) (EvB.of_eq (EvB.cmp (Ev.callB (Ev.builtin S2 (by kernel_rfl)) (EvL.cons (Ev.itemN (d := nl (pairOf deeds k)) (Ev.name (d := nll (R.map (pairOf deeds))) vp) (Ev.name (d := nt j) hj2) (LD.data _) pk hpl) EvL.nil) (call_min (ns := ofN (pairOf deeds k)) (by rw [← li_ofN]; exact LD.data _) (min_two _ _) hh)) (Ev.callB (Ev.builtin S2 (by kernel_rfl)) (EvL.cons (Ev.itemN (d := nl (pairOf deeds c)) (Ev.name (d := nll (R.map (pairOf deeds))) vp) (Ev.name (d := nt i) rfl) (LD.data _) pc hpl) EvL.nil) (call_min (ns := ofN (pairOf deeds c)) (by rw [← li_ofN]; exact LD.data _) (min_two _ _) hh)) op_ltN) ?_) fun _ => EvAnd.nil)) (by simp)) ?_
      · have := apart_min LO Me.good OK hij hk hc (of_decide_eq_true hb)
        unfold mnOf at this
        simpa using this
      · refine ⟨Ex.nil fun s' F' => ?_⟩
        refine ⟨_, _, ?_, F'⟩
        exact ⟨⟨keep_upd (keep_upd k2 (by decide)) (by decide), hj2⟩, rfl⟩
    · rintro μ2 ν2 ⟨⟨k2, _⟩, rfl⟩
      exact ExS.end ⟨Ex.nil fun s' F' => ⟨_, _, ⟨k2, rfl⟩, F'⟩⟩
  · rintro μ1 ν1 ⟨k1, rfl⟩
    exact ExS.end (hr μ1 (Me.stay k1))
end Mine
end
section
open PySem PyProof.Rows
set_option autoImplicit false
namespace Mine

/-- a bit set -/
theorem set_bit (x r b : Nat) (hb : b < 2) : ∃ y : Nat, (y : Int) = (x : Int) + ((b : Int) - ((x / 2 ^ r % 2 : Nat) : Int)) * ((2 ^ r : Nat) : Int) ∧ (∀ r', y / 2 ^ r' % 2 = if r' = r then b else x / 2 ^ r' % 2) ∧ ∀ n, r < n → y / 2 ^ n = x / 2 ^ n := by
  have hp : 0 < 2 ^ r := Nat.pow_pos (by decide)
  have hx := Nat.div_add_mod x (2 ^ r)
  have hl : x % 2 ^ r < 2 ^ r := Nat.mod_lt _ hp
  have hs : (2 : Nat) ^ (r + 1) = 2 ^ r * 2 := Nat.pow_succ ..
  have hq := Nat.div_add_mod (x / 2 ^ r) 2
  have hd : ∀ z, z / 2 ^ (r + 1) = z / 2 ^ r / 2 := fun z => by rw [hs, Nat.div_div_eq_div_mul]
  generalize hpp : (2 : Nat) ^ r = p at *
  generalize x / p = q at *
  generalize x % p = l at *
  have y1 : (p * (2 * (q / 2) + b) + l) / p = 2 * (q / 2) + b := by
    rw [Nat.mul_add_div hp, Nat.div_eq_of_lt hl]; omega
  have y2 : (p * (2 * (q / 2) + b) + l) / 2 ^ (r + 1) = x / 2 ^ (r + 1) := by
    rw [hd, hd, y1]
    have : x / p = q := by rw [← hx, Nat.mul_add_div hp, Nat.div_eq_of_lt hl]; omega
    rw [this]; omega
  have up : ∀ n, r < n → (p * (2 * (q / 2) + b) + l) / 2 ^ n = x / 2 ^ n := fun n hn => by
    have e : (2 : Nat) ^ n = 2 ^ (r + 1) * 2 ^ (n - (r + 1)) := by rw [← Nat.pow_add]; congr 1; omega
    rw [e, ← Nat.div_div_eq_div_mul, ← Nat.div_div_eq_div_mul, y2]
  refine ⟨p * (2 * (q / 2) + b) + l, ?_, fun r' => ?_, up⟩
  · have e1 : p * q = p * (2 * (q / 2)) + p * (q % 2) := by rw [← Nat.mul_add, hq]
    rw [Nat.mul_add, ← hx, e1]
    push_cast
    rw [Int.sub_mul, Int.mul_comm (b : Int), Int.mul_comm ((q : Int) % 2)]
    omega
  · by_cases h : r' = r
    · subst h
      rw [if_pos rfl, hpp, y1]; omega
    · rw [if_neg h]
      rcases Nat.lt_or_gt_of_ne h with h | h
      · have low : ∀ z, z / 2 ^ r' % 2 = z % 2 ^ (r' + 1) / 2 ^ r' := fun z => by rw [Nat.pow_succ, Nat.mod_mul_right_div_self]
        have dv : 2 ^ (r' + 1) ∣ p := by rw [← hpp]; exact Nat.pow_dvd_pow 2 h
        rw [low, low, ← Nat.mod_mod_of_dvd _ dv, ← Nat.mod_mod_of_dvd x dv, Nat.mul_add_mod, ← hx, Nat.mul_add_mod]
      · rw [up r' h]

theorem bit_low {x : Nat} (r : Nat) (hr : r < 12) : x % 4096 / 2 ^ r % 2 = x / 2 ^ r % 2 := by
  have low : ∀ z, z / 2 ^ r % 2 = z % 2 ^ (r + 1) / 2 ^ r := fun z => by rw [Nat.pow_succ, Nat.mod_mul_right_div_self]
  have dv : 2 ^ (r + 1) ∣ 4096 := (Nat.pow_dvd_pow 2 (by omega : r + 1 ≤ 12))
  rw [low, low, Nat.mod_mod_of_dvd _ dv]

/-- what a deed makes of a mode, by its bits -/
def freshOf (d : Nat × Nat × Nat) (mode : Nat) : Nat := d.2.2 / 4 ^ (2 * (mode / 2 ^ d.1 % 2) + mode / 2 ^ d.2.1 % 2) % 4
theorem step_bits {d : Nat × Nat × Nat} (G : GoodDeed d) (mode : Nat) : ∃ M : Nat, stepI d mode = (M : Int) ∧ M / 4096 = mode / 4096 % 16 ∧ ∀ r, r < 12 → M / 2 ^ r % 2 = if r = d.1 then freshOf d mode / 2 else if r = d.2.1 then freshOf d mode % 2 else mode / 2 ^ r % 2 := by
  have h1 := G.one
  have h2 := G.two
  have hf : d.2.2 / 4 ^ (2 * (mode % 4096 / 2 ^ d.1 % 2) + mode % 4096 / 2 ^ d.2.1 % 2) % 4 = freshOf d mode := by
    rw [bit_low _ h1, bit_low _ h2]; rfl
  have hf4 : freshOf d mode < 4 := Nat.mod_lt _ (by decide)
  obtain ⟨y1, e1, b1, u1⟩ := set_bit (mode % 4096) d.1 (freshOf d mode / 2) (by omega)
  obtain ⟨y2, e2, b2, u2⟩ := set_bit y1 d.2.1 (freshOf d mode % 2) (by omega)
  have hy : y2 < 4096 := by
    have a1 := u2 12 h2
    have a2 := u1 12 h1
    have a3 : mode % 4096 / 2 ^ 12 = 0 := Nat.div_eq_of_lt (Nat.mod_lt _ (by decide))
    have a4 : y2 / 4096 = 0 := by rw [a2, a3] at a1; exact a1
    omega
  have s1 : y1 / 2 ^ d.2.1 % 2 = mode % 4096 / 2 ^ d.2.1 % 2 := by rw [b1, if_neg (Ne.symm G.ne)]
  refine ⟨mode / 4096 % 16 * 4096 + y2, ?_, by omega, fun r hr => ?_⟩
  · have e : stepI d mode = ((mode / 4096 % 16 * 4096 : Nat) : Int) + (((mode % 4096 : Nat) : Int) + ((((d.2.2 / 4 ^ (2 * (mode % 4096 / 2 ^ d.1 % 2) + mode % 4096 / 2 ^ d.2.1 % 2) % 4 / 2 : Nat) : Int) - ((mode % 4096 / 2 ^ d.1 % 2 : Nat) : Int)) * ((2 ^ d.1 : Nat) : Int) +
        (((d.2.2 / 4 ^ (2 * (mode % 4096 / 2 ^ d.1 % 2) + mode % 4096 / 2 ^ d.2.1 % 2) % 4 % 2 : Nat) : Int) - ((mode % 4096 / 2 ^ d.2.1 % 2 : Nat) : Int)) * ((2 ^ d.2.1 : Nat) : Int))) := rfl
    rw [s1] at e2
    rw [e, hf, Int.natCast_add (mode / 4096 % 16 * 4096) y2, e2, e1]
    generalize (((freshOf d mode / 2 : Nat) : Int) - _) * _ = X
    generalize (((freshOf d mode % 2 : Nat) : Int) - _) * _ = Y
    omega
  · have : (mode / 4096 % 16 * 4096 + y2) / 2 ^ r % 2 = y2 / 2 ^ r % 2 := by
      rw [← bit_low r hr]
      congr 2
      omega
    rw [this, b2]
    by_cases hb : r = d.2.1
    · subst hb
      rw [if_pos rfl, if_neg (Ne.symm G.ne), if_pos rfl]
    · rw [if_neg hb, b1]
      by_cases ha : r = d.1
      · rw [if_pos ha, if_pos ha]
      · rw [if_neg ha, if_neg ha, if_neg hb, bit_low r hr]

theorem low_bits (x : Nat) : ∀ n : Nat, x % 2 ^ n = ((List.range n).map fun r => 2 ^ r * (x / 2 ^ r % 2)).sum
  | 0 => by simp [Nat.mod_one]
  | n + 1 => by
    rw [List.range_succ, List.map_append, List.sum_append, ← low_bits x n, Nat.mod_pow_succ]
    simp
end Mine
end
section
open PySem PyProof.Rows
set_option autoImplicit false
namespace Mine

def dAt (deeds : Deeds) (k : Nat) : Nat × Nat × Nat := deeds.getD k (0, 1, 0)
def sysOf (deeds : Deeds) (L : List (List Nat)) : Sys := ⟨deeds.length, fun k => (dAt deeds k).1, fun k => (dAt deeds k).2.1, fun k => (dAt deeds k).2.2, fun r => L.getD r []⟩
theorem dAt_good {deeds : Deeds} (hg : ∀ d ∈ deeds, GoodDeed d) (k : Nat) : GoodDeed (dAt deeds k) := by
  unfold dAt
  rw [List.getD_eq_getElem?_getD]
  cases e : deeds[k]? with
  | none => exact ⟨by decide, by decide, by decide, by decide⟩
  | some d => exact hg d (List.mem_of_getElem? e)
theorem dAt_eq {deeds : Deeds} {k : Nat} (h : k < deeds.length) : deeds.getD k (0, 0, 0) = dAt deeds k := by
  unfold dAt
  rw [List.getD_eq_getElem?_getD, List.getD_eq_getElem?_getD, List.getElem?_eq_getElem h]; rfl
theorem sys_ok {deeds : Deeds} {L : List (List Nat)} (hm : deeds.length ≤ 8) (hg : ∀ d ∈ deeds, GoodDeed d) (LO : LogsOk deeds L) : (sysOf deeds L).Ok where
  m8 := hm
  a12 := fun k => (dAt_good hg k).one
  b12 := fun k => (dAt_good hg k).two
  ne := fun k => (dAt_good hg k).ne
  o256 := fun k => (dAt_good hg k).octet
  mem := fun r hr k => by
    show k ∈ L.getD r [] ↔ k < deeds.length ∧ ((dAt deeds k).1 = r ∨ (dAt deeds k).2.1 = r)
    rw [LO.mem r hr k]
    refine and_congr_right fun hk => ?_
    rw [dAt_eq hk]
    constructor <;> (rintro (q | q) <;> simp [q])
  nodup := LO.nodup
theorem sys_deeds (deeds : Deeds) (L : List (List Nat)) : ll (sysOf deeds L).deeds = .list (deeds.map dl) := by
  have : (sysOf deeds L).deeds.map li = deeds.map dl := by
    apply List.ext_getElem
    · simp [sysOf]
    · intro i h1 h2
      simp only [List.length_map] at h2
      simp only [Sys.deeds, Sys.deed, sysOf, dAt, List.getElem_map, List.getElem_range, List.getD_eq_getElem?_getD, List.getElem?_eq_getElem h2]
      rfl
  rw [ll, this]
theorem sys_logs {deeds : Deeds} {L : List (List Nat)} (h : L.length = 12) : ll (sysOf deeds L).logs = nll L := by
  have : (sysOf deeds L).logs = L.map ofN := by
    apply List.ext_getElem
    · simp [h]
    · intro i h1 h2
      simp only [List.length_map] at h2
      simp only [Sys.logs, sysOf, List.getElem_map, List.getElem_range, List.getD_eq_getElem?_getD, List.getElem?_eq_getElem h2]
      rfl
  rw [this, ll_ofN]

section
variable {deeds : Deeds} {L : List (List Nat)} {R : List Nat}
theorem LogsOk.at (LO : LogsOk deeds L) {r : Nat} (hr : r < 12) : L.getD r [] ∈ L := by
  rw [List.getD_eq_getElem?_getD, List.getElem?_eq_getElem (by rw [LO.len]; exact hr)]; exact List.getElem_mem _
theorem OrderOk.row (OK : OrderOk deeds L R) (LO : LogsOk deeds L) {r : Nat} (hr : r < 12) : R.filter (fun k => decide (k ∈ L.getD r [])) = L.getD r [] := OK.part _ (LO.at hr)
theorem sys_up (OK : OrderOk deeds L R) (LO : LogsOk deeds L) : (sysOf deeds L).Up R.idxOf := fun r hr => by
  show (L.getD r []).Pairwise _
  rw [← OK.row LO hr]
  refine List.Pairwise.sublist List.filter_sublist ?_
  rw [List.pairwise_iff_getElem]
  intro i j hi hj hij
  show R.idxOf R[i] < R.idxOf R[j]
  rw [OK.nodup.idxOf_getElem, OK.nodup.idxOf_getElem]
  exact hij
theorem sys_bound (OK : OrderOk deeds L R) (LO : LogsOk deeds L) {r count : Nat} (hr : r < 12) (hc : count ≤ (L.getD r []).length) : (sysOf deeds L).Bound R.idxOf R.length r count := by
  by_cases h : count = 0
  · exact Or.inl h
  · right
    have hlt : count - 1 < (L.getD r []).length := by omega
    show R.idxOf ((L.getD r []).getD (count - 1) 0) < R.length
    rw [List.idxOf_lt_length_iff]
    have hrow := OK.row LO hr
    generalize L.getD r [] = l at *
    have : l.getD (count - 1) 0 ∈ l := by
      have e : l.getD (count - 1) 0 = l[count - 1] := by rw [List.getD_eq_getElem?_getD, List.getElem?_eq_getElem hlt]; rfl
      rw [e]; exact List.getElem_mem _
    have h2 : l.getD (count - 1) 0 ∈ R.filter (fun k => decide (k ∈ l)) := by rw [hrow]; exact this
    exact (List.mem_filter.mp h2).1

/-- the first deeds of the order that touch a right -/
def cnt (L : List (List Nat)) (R : List Nat) (i r : Nat) : Nat := ((R.take i).filter fun k => decide (k ∈ L.getD r [])).length
/-- the mode behind the first deeds of the order -/
def modeAt (deeds : Deeds) (R : List Nat) (mode : Nat) : Nat → Nat
  | 0 => mode
  | i + 1 => (stepI (dAt deeds (R.getD i 0)) (modeAt deeds R mode i)).toNat
theorem cnt_step {i k : Nat} (hk : R[i]? = some k) (r : Nat) : cnt L R (i + 1) r = cnt L R i r + (if k ∈ L.getD r [] then 1 else 0) := by
  unfold cnt
  rw [List.take_add_one, hk, List.filter_append, List.length_append]
  congr 1
  by_cases h : k ∈ L.getD r []
  · rw [if_pos h, Option.toList_some, List.filter_cons_of_pos (by simpa using h)]; rfl
  · rw [if_neg h, Option.toList_some, List.filter_cons_of_neg (by simpa using h)]; rfl
theorem row_split (OK : OrderOk deeds L R) (LO : LogsOk deeds L) {i k : Nat} (hk : R[i]? = some k) {r : Nat} (hr : r < 12) (hkr : k ∈ L.getD r []) :
    (L.getD r []).getD (cnt L R i r) 0 = k ∧ (L.getD r []).idxOf k = cnt L R i r := by
  obtain ⟨hlt, e⟩ := List.getElem?_eq_some_iff.mp hk
  have hR : R = R.take i ++ k :: R.drop (i + 1) := by
    conv => lhs; rw [← List.take_append_drop i R, List.drop_eq_getElem_cons hlt, e]
  have hrow : L.getD r [] = (R.take i).filter (fun k => decide (k ∈ L.getD r [])) ++ k :: (R.drop (i + 1)).filter (fun k => decide (k ∈ L.getD r [])) := by
    conv => lhs; rw [← OK.row LO hr, hR]
    rw [List.filter_append, List.filter_cons_of_pos (by simpa using hkr)]
  have hnot : k ∉ (R.take i).filter (fun k => decide (k ∈ L.getD r [])) := fun h => by
    have hn := OK.nodup
    rw [hR] at hn
    exact (List.nodup_append.mp hn).2.2 k (List.mem_filter.mp h).1 k List.mem_cons_self rfl
  have hlen : ((R.take i).filter (fun k => decide (k ∈ L.getD r []))).length = cnt L R i r := rfl
  generalize (R.take i).filter (fun k => decide (k ∈ L.getD r [])) = X at *
  generalize (R.drop (i + 1)).filter (fun k => decide (k ∈ L.getD r [])) = Y at *
  rw [hrow]
  refine ⟨?_, ?_⟩
  · rw [← hlen, List.getD_eq_getElem?_getD, List.getElem?_append_right (Nat.le_refl _)]; simp
  · rw [List.idxOf_append, if_neg hnot, hlen]; simp
theorem row_all (OK : OrderOk deeds L R) (LO : LogsOk deeds L) {r : Nat} (hr : r < 12) : cnt L R R.length r = (L.getD r []).length := by
  unfold cnt
  rw [List.take_length, OK.row LO hr]

theorem step_mode (hg : ∀ d ∈ deeds, GoodDeed d) (mode i k : Nat) (hk : R[i]? = some k) : stepI (dAt deeds k) (modeAt deeds R mode i) = (modeAt deeds R mode (i + 1) : Int) ∧ modeAt deeds R mode (i + 1) / 4096 = modeAt deeds R mode i / 4096 % 16 ∧
    ∀ r, r < 12 → modeAt deeds R mode (i + 1) / 2 ^ r % 2 = if r = (dAt deeds k).1 then freshOf (dAt deeds k) (modeAt deeds R mode i) / 2 else if r = (dAt deeds k).2.1 then freshOf (dAt deeds k) (modeAt deeds R mode i) % 2 else modeAt deeds R mode i / 2 ^ r % 2 := by
  have hk' : R.getD i 0 = k := by rw [List.getD_eq_getElem?_getD, hk]; rfl
  obtain ⟨M, e, h1, h2⟩ := step_bits (dAt_good hg k) (modeAt deeds R mode i)
  have : modeAt deeds R mode (i + 1) = M := by
    unfold modeAt
    rw [hk', e]; simp
  rw [this]
  exact ⟨e, h1, h2⟩

/-- what the logs tell is what the mode bears -/
theorem ask_mode (hg : ∀ d ∈ deeds, GoodDeed d) (OK : OrderOk deeds L R) (LO : LogsOk deeds L) (mode : Nat) : ∀ i, i ≤ R.length → ∀ n, i ≤ n → ∀ r, r < 12 → (sysOf deeds L).ask mode n r (cnt L R i r) = modeAt deeds R mode i / 2 ^ r % 2
  | 0, _, n, _, r, _ => by
    have : cnt L R 0 r = 0 := by simp [cnt]
    rw [this]
    cases n <;> simp [Sys.ask, modeAt]
  | i + 1, hi, n, hn, r, hr => by
    have hk : R[i]? = some R[i] := List.getElem?_eq_getElem (by omega)
    generalize R[i] = k at hk
    have hkm : k < deeds.length := (OK.mem k).mp (List.mem_of_getElem? hk)
    have ih := ask_mode hg OK LO mode i (by omega)
    obtain ⟨_, _, hb⟩ := step_mode hg mode i k hk
    have G := dAt_good hg k
    have hin : ∀ r, r < 12 → (k ∈ L.getD r [] ↔ r = (dAt deeds k).1 ∨ r = (dAt deeds k).2.1) := fun r hr => by
      rw [LO.mem r hr k, dAt_eq hkm]; simp [hkm]
    rw [hb r hr, cnt_step hk r]
    by_cases h : k ∈ L.getD r []
    · rw [if_pos h]
      obtain ⟨n', rfl⟩ : ∃ n', n = n' + 1 := ⟨n - 1, by omega⟩
      have r1 := (row_split OK LO hk hr h).1
      have ra := (row_split OK LO hk G.one ((hin _ G.one).mpr (Or.inl rfl))).2
      have rb := (row_split OK LO hk G.two ((hin _ G.two).mpr (Or.inr rfl))).2
      have ia := ih n' (by omega) (dAt deeds k).1 G.one
      have ib := ih n' (by omega) (dAt deeds k).2.1 G.two
      unfold Sys.ask
      rw [if_neg (Nat.succ_ne_zero _)]
      show (if r = (dAt deeds ((L.getD r []).getD (cnt L R i r + 1 - 1) 0)).1 then _ else _) = _
      rw [Nat.add_sub_cancel, show ((sysOf deeds L).log r).getD (cnt L R i r) 0 = k from r1, r1]
      show (if r = (dAt deeds k).1 then (dAt deeds k).2.2 / 4 ^ (2 * (sysOf deeds L).ask mode n' (dAt deeds k).1 ((L.getD (dAt deeds k).1 []).idxOf k) + (sysOf deeds L).ask mode n' (dAt deeds k).2.1 ((L.getD (dAt deeds k).2.1 []).idxOf k)) % 4 / 2 else
        (dAt deeds k).2.2 / 4 ^ (2 * (sysOf deeds L).ask mode n' (dAt deeds k).1 ((L.getD (dAt deeds k).1 []).idxOf k) + (sysOf deeds L).ask mode n' (dAt deeds k).2.1 ((L.getD (dAt deeds k).2.1 []).idxOf k)) % 4 % 2) = _
      rw [ra, rb, ia, ib]
      rcases (hin r hr).mp h with q | q
      · rw [if_pos q, if_pos q]; rfl
      · have q1 : r ≠ (dAt deeds k).1 := fun z => G.ne (z.symm.trans q)
        rw [if_neg q1, if_neg q1, if_pos q]; rfl
    · rw [if_neg h, Nat.add_zero]
      have q := mt (hin r hr).mpr h
      rw [if_neg fun z => q (Or.inl z), if_neg fun z => q (Or.inr z)]
      exact ih n (by omega) r hr

theorem mode_high (hg : ∀ d ∈ deeds, GoodDeed d) (mode : Nat) : ∀ i, i ≤ R.length → modeAt deeds R mode i / 4096 = if i = 0 then mode / 4096 else mode / 4096 % 16
  | 0, _ => rfl
  | i + 1, hi => by
    have hk : R[i]? = some R[i] := List.getElem?_eq_getElem (by omega)
    rw [(step_mode hg mode i _ hk).2.1, mode_high hg mode i (by omega), if_neg (Nat.succ_ne_zero _)]
    split <;> omega

/-- what is due -/
def dueOf (deeds : Deeds) (L : List (List Nat)) (mode : Nat) : Nat :=
  (if deeds.length = 0 then mode else mode % 65536) / 4096 * 4096 + ((List.range 12).map fun r => 2 ^ r * (sysOf deeds L).ask mode deeds.length r (L.getD r []).length).sum
theorem due_mode (hg : ∀ d ∈ deeds, GoodDeed d) (OK : OrderOk deeds L R) (LO : LogsOk deeds L) (hl : R.length = deeds.length) {mode : Nat} (hmode : mode < 262144) : modeAt deeds R mode R.length = dueOf deeds L mode ∧ dueOf deeds L mode < 262144 := by
  have e : ((List.range 12).map fun r => 2 ^ r * (sysOf deeds L).ask mode deeds.length r (L.getD r []).length) = (List.range 12).map fun r => 2 ^ r * (modeAt deeds R mode R.length / 2 ^ r % 2) := by
    refine List.map_congr_left fun r hr => ?_
    have hr' := List.mem_range.mp hr
    rw [← row_all OK LO hr', ask_mode hg OK LO mode R.length (Nat.le_refl _) deeds.length (by omega) r hr']
  have h1 := mode_high (R := R) hg mode R.length (Nat.le_refl _)
  have h2 := low_bits (modeAt deeds R mode R.length) 12
  have h3 : modeAt deeds R mode R.length % 2 ^ 12 = modeAt deeds R mode R.length % 4096 := rfl
  unfold dueOf
  rw [e, ← h2, h3]
  rw [hl] at *
  generalize modeAt deeds R mode deeds.length = M at *
  split at h1
  · rename_i q; rw [if_pos q]; omega
  · rename_i q; rw [if_neg q]; omega
end
end Mine
end
section
open PySem PyProof.Rows
set_option autoImplicit false
namespace Mine

theorem and_all {m : Nat} (hm : m < 2 ^ 12) (n : Nat) : decide (n &&& m = m) = (List.range 12).all fun i => !m.testBit i || n.testBit i := by
  rw [Bool.eq_iff_iff, decide_eq_true_iff, List.all_eq_true]
  constructor
  · intro h i _
    cases hb : m.testBit i with
    | false => rfl
    | true =>
      have : (n &&& m).testBit i = m.testBit i := by rw [h]
      rw [Nat.testBit_and, hb, Bool.and_true] at this
      simp [this]
  · intro h
    apply Nat.eq_of_testBit_eq
    intro i
    rw [Nat.testBit_and]
    by_cases hi : i < 12
    · have := h i (List.mem_range.mpr hi)
      cases hb : m.testBit i with
      | false => simp
      | true => rw [hb] at this; simpa using this
    · have : m.testBit i = false := Nat.testBit_lt_two_pow (Nat.lt_of_lt_of_le hm (Nat.pow_le_pow_right (by decide) (by omega)))
      rw [this, Bool.and_false]

theorem hit_one (n k : Nat) (hk : k < 12) : decide (n &&& 2 ^ k = 2 ^ k) = n.testBit k := by
  rw [and_all (Nat.pow_lt_pow_right (by decide) hk), Bool.eq_iff_iff, List.all_eq_true]
  constructor
  · intro h
    have := h k (List.mem_range.mpr hk)
    rw [Nat.testBit_two_pow_self] at this
    simpa using this
  · intro h i _
    by_cases e : i = k
    · subst e; simp [h]
    · rw [Nat.testBit_two_pow_of_ne (Ne.symm e)]; rfl
theorem hit_two (n a b : Nat) (ha : a < 12) (hb : b < a) : decide (n &&& (2 ^ a ||| 2 ^ b) = (2 ^ a ||| 2 ^ b)) = (n.testBit a && n.testBit b) := by
  have h1 := hit_one n a ha
  have h2 := hit_one n b (by omega)
  rw [← h1, ← h2, ← Bool.decide_and, Bool.eq_iff_iff, decide_eq_true_iff, decide_eq_true_iff, Nat.and_or_distrib_left]
  constructor
  · intro h
    have bit : ∀ i, ((n &&& 2 ^ a) ||| (n &&& 2 ^ b)).testBit i = (2 ^ a ||| 2 ^ b).testBit i := fun i => by rw [h]
    have pa := bit a
    have pb := bit b
    simp only [Nat.testBit_or, Nat.testBit_and, Nat.testBit_two_pow_self, Nat.testBit_two_pow_of_ne (show a ≠ b by omega), Nat.testBit_two_pow_of_ne (show b ≠ a by omega), Bool.and_true, Bool.and_false, Bool.or_false, Bool.false_or] at pa pb
    rw [pa] at h1
    rw [pb] at h2
    exact ⟨of_decide_eq_true h1, of_decide_eq_true h2⟩
  · rintro ⟨q1, q2⟩; rw [q1, q2]

def pick1 (n ch k : Nat) : Nat := [45, ch].getD (n / 2 ^ k % 2) 0
theorem sign_one (n ch k i : Nat) (hk : k < 12) : signF n ([(2 ^ k, ch)], i + 1) = pick1 n ch k := by
  unfold signF hitF pick1
  simp only [Nat.add_eq_zero_iff, Nat.succ_ne_self, and_false, if_false, List.find?_cons, List.find?_nil]
  rw [hit_one n k hk, ← Nat.toNat_testBit]
  cases n.testBit k <;> rfl
theorem sign_three (n k j i c1 c2 c3 : Nat) (hj : j < 12) (hk : k < j) : signF n ([(2 ^ j ||| 2 ^ k, c1), (2 ^ j, c2), (2 ^ k, c3)], i + 1) = [45, c3, c2, c1].getD (n / 2 ^ k % 2 + 2 * (n / 2 ^ j % 2)) 0 := by
  unfold signF hitF
  simp only [Nat.add_eq_zero_iff, Nat.succ_ne_self, and_false, if_false, List.find?_cons, List.find?_nil]
  rw [hit_two n j k hj hk, hit_one n j hj, hit_one n k (by omega), ← Nat.toNat_testBit, ← Nat.toNat_testBit]
  cases n.testBit k <;> cases n.testBit j <;> rfl
theorem sign_type (n : Nat) : signF n ([(40960, 108), (49152, 115), (32768, 45), (24576, 98), (16384, 100), (8192, 99), (4096, 112)], 0) = [63, 112, 99, 63, 100, 63, 98, 63, 45, 63, 108, 63, 115, 63, 63, 63].getD (n / 4096 % 16) 0 := by
  unfold signF hitF
  simp only [if_true]
  have h : n / 4096 % 16 < 16 := Nat.mod_lt _ (by decide)
  generalize n / 4096 % 16 = t at h
  have : ∀ t : Nat, t < 16 → (match List.find? (fun (q : Nat × Nat) => decide (t * 4096 = q.1)) [(40960, 108), (49152, 115), (32768, 45), (24576, 98), (16384, 100), (8192, 99), (4096, 112)] with
    | some q => q.2
    | none => 63) = [63, 112, 99, 63, 100, 63, 98, 63, 45, 63, 108, 63, 115, 63, 63, 63].getD t 0 := by decide
  exact this t h

/-- filemode shows what the listing shows -/
theorem fmode_listing (n : Nat) : fmode n = listing n := by
  show [signF n ([(40960, 108), (49152, 115), (32768, 45), (24576, 98), (16384, 100), (8192, 99), (4096, 112)], 0), signF n ([(2 ^ 8, 114)], 0 + 1), signF n ([(2 ^ 7, 119)], 1 + 1), signF n ([(2 ^ 11 ||| 2 ^ 6, 115), (2 ^ 11, 83), (2 ^ 6, 120)], 2 + 1),
    signF n ([(2 ^ 5, 114)], 3 + 1), signF n ([(2 ^ 4, 119)], 4 + 1), signF n ([(2 ^ 10 ||| 2 ^ 3, 115), (2 ^ 10, 83), (2 ^ 3, 120)], 5 + 1), signF n ([(2 ^ 2, 114)], 6 + 1), signF n ([(2 ^ 1, 119)], 7 + 1), signF n ([(2 ^ 9 ||| 2 ^ 0, 116), (2 ^ 9, 84), (2 ^ 0, 120)], 8 + 1)] = _
  rw [sign_type, sign_one _ _ _ _ (by decide), sign_one _ _ _ _ (by decide), sign_one _ _ _ _ (by decide), sign_one _ _ _ _ (by decide), sign_one _ _ _ _ (by decide), sign_one _ _ _ _ (by decide), sign_three _ _ _ _ _ _ _ (by decide) (by decide), sign_three _ _ _ _ _ _ _ (by decide) (by decide), sign_three _ _ _ _ _ _ _ (by decide) (by decide)]
  rfl
end Mine
end
section
open PySem PySem.W PyProof.Rows
set_option autoImplicit false
set_option maxRecDepth 100000
set_option maxHeartbeats 1000000
namespace Mine
theorem ofN_sum : ∀ l : List Nat, (ofN l).sum = ((l.sum : Nat) : Int)
  | [] => rfl
  | x :: l => by
    show (x : Int) + (ofN l).sum = ((x + l.sum : Nat) : Int)
    rw [ofN_sum l, Int.natCast_add]

/-- the last: end, due -/
structure Last (deeds : Deeds) (bends : List Int) (mode : Nat) (R : List Nat) (μ : Vars) : Prop extends Merged deeds bends mode R μ where
  vdue : μ "due" = some (nt (dueOf deeds (logsIn deeds bends) mode))

variable {P : Params} {prog : Program} {w : World} {hL : Heap}
/-- rights, due -/
theorem law_due (h : HL P hL) (A : Around) (room : Room A 10) (s : Shared) {deeds : Deeds} {bends : List Int} {mode : Nat} {g : View} {μ : Vars} {R : List Nat} {PP : Flow → Shared → Prop} {E : Value → Shared → Prop}
    (Me : Merged deeds bends mode R μ) (OK : OrderOk deeds (logsIn deeds bends) R) (hRl : R.length = deeds.length)
    (hr : ∀ μ, Last deeds bends mode R μ → ExS (lcx prog w A hL P s g) μ noMuts ((bodyAt P 146).drop 20) PP E) :
    ExS (lcx prog w A hL P s g) μ noMuts ((bodyAt P 146).drop 18) PP E := by
  have S : Std P (lcx prog w A hL P s g) := lcx_std h
  have hh : A.handled = none := room.handled
  have hm8 := Me.hmany
  have hmode := Me.hmode
  have LO := logs_ok deeds bends
  have LS := LO.small hm8
  have SO := sys_ok hm8 Me.good LO
  obtain ⟨o134, ho134, hfd134⟩ := (asked_at h).obj
  generalize hL0 : logsIn deeds bends = L at *
  let ask : Nat → Nat := fun r => (sysOf deeds L).ask mode deeds.length r (L.getD r []).length
  have vlogs := Me.vlogs
  rw [hL0] at vlogs
  refine ExS.assign (d := nl ((List.range 12).map ask)) (CompTo.ev (CompTo.of_eq (CompTo.one nt (List.range 12) (fun _ => true) (fun r => nt (ask r)) (EvI.rangeN (Ev.builtin S (by kernel_rfl)) (Ev.nat 12) hh (by decide)) (by kernel_rfl) (by decide) (by simp) (fun s C H N g a ha => EvT.nil) (fun s1 C H N g r hr' _ => ?_)) (by rw [filter_tt, List.map_map]; rfl)) (by kernel_rfl)) (lown _) ?_
  · have hr12 := List.mem_range.mp hr'
    have hat : (L.map nl)[r]? = some (nl (L.getD r [])) := by
      rw [List.getElem?_map, List.getD_eq_getElem?_getD, List.getElem?_eq_getElem (by rw [LO.len]; exact hr12)]; rfl
    have hll := (LS.each _ (LO.at hr12)).1
    refine Ev.callF (Ev.global (S.comp _ s1 C H N g)) ho134 hfd134 (by decide) (EvL.cons (Ev.of_eq (Ev.name (d := .list (deeds.map dl)) Me.vdeeds) (sys_deeds deeds L).symm) (EvL.cons (Ev.of_eq (Ev.name (d := nll L) vlogs) (sys_logs (deeds := deeds) LO.len).symm) (EvL.cons (Ev.name (d := nt mode) Me.vmode) (EvL.cons (Ev.name (d := nt r) rfl)
      (EvL.cons (Ev.callB (Ev.builtin (S.comp _ s1 C H N g) (by kernel_rfl)) (EvL.cons (Ev.itemN (d := nl (L.getD r [])) (Ev.name (d := nll L) vlogs) (Ev.name (d := nt r) rfl) (LD.data _) hat (by simp [LO.len])) EvL.nil) (call_lenN (n := (L.getD r []).length) (LD.data _) (by simp) (by omega))) EvL.nil))))) ?_
    exact CallIs.ofPure (room.le (by omega)) (asked_pure h (sysOf deeds L) SO R.idxOf (sys_up OK LO) mode deeds.length r (L.getD r []).length hr12 (Nat.le_refl _) (by rw [← hRl]; exact sys_bound OK LO hr12 (Nat.le_refl _)))
  have vr : ∀ r, r < 12 → (((List.range 12).map ask).map nt)[r]? = some (nt (ask r)) := fun r hr' => by simp [hr']
  refine ExS.assign (d := nt (dueOf deeds L mode)) (Ev.of_eq (Ev.bin (Ev.bin (Ev.bin (Ev.ifexp (b := decide (deeds.length = 0)) (d := nt (if deeds.length = 0 then mode else mode % 65536)) (EvB.cmp (Ev.name (d := nt deeds.length) Me.vmany) (Ev.nat 0) op_eqN) (fun q => ?_) fun q => ?_) (Ev.nat 4096) (op_divN (by decide) (by decide))) (Ev.nat 4096) (op_mulN ?_))
    (Ev.callB (Ev.builtin S (by kernel_rfl)) (EvL.cons (CompTo.ev (CompTo.of_eq (out' := (ofN ((List.range 12).map fun r => 2 ^ r * ask r)).map D.int) (CompTo.one nt (List.range 12) (fun _ => true) (fun r => nt (2 ^ r * ask r)) (EvI.rangeN (Ev.builtin S (by kernel_rfl)) (Ev.nat 12) hh (by decide)) (by kernel_rfl) (by decide) (by simp) (fun s C H N g a ha => EvT.nil) (fun s1 C H N g r hr' _ => ?_)) (by rw [filter_tt, ofN_map, List.map_map]; rfl)) (by kernel_rfl)) EvL.nil) (call_sum (LD.data _) hh)) op_add) ?_) (lown _) ?_
  · have q := of_decide_eq_true q
    rw [if_pos q]; exact Ev.name Me.vmode
  · have q := of_decide_eq_false q
    rw [if_neg q]; exact Ev.bin (Ev.name (d := nt mode) Me.vmode) (Ev.nat 65536) (op_modN (by decide))
  · have : (if deeds.length = 0 then mode else mode % 65536) ≤ mode := by split <;> omega
    omega
  · have hr12 := List.mem_range.mp hr'
    exact Ev.bin (Ev.bin (Ev.nat 2) (Ev.name (d := nt r) rfl) (op_powN (by decide) (by omega))) (Ev.itemN (d := nt (ask r)) (Ev.name (d := nl ((List.range 12).map ask)) rfl) (Ev.name (d := nt r) rfl) (LD.data _) (vr r hr12) (by simp)) (op_mulN (Nat.lt_of_lt_of_le (Nat.pow_lt_pow_right (by decide) hr12) (by decide)))
  · rw [ofN_sum, nt, dueOf, Int.natCast_add]
  exact hr _ { (Me.stay (μ' := upd (upd μ "rights" (nl ((List.range 12).map ask))) "due" (nt (dueOf deeds L mode))) (keep_upd (keep_upd (fun _ _ => rfl) (by decide)) (by decide))) with vdue := by rw [hL0]; rfl }
end Mine
end
section
open PySem PySem.W PyProof.Rows
set_option autoImplicit false
set_option maxRecDepth 100000
set_option maxHeartbeats 1000000
namespace Mine
variable {P : Params} {prog : Program} {w : World} {hL : Heap}
theorem not_tab_seq {c : Cx} {μ : Vars} {ν : Muts} {s : Shared} {p1 p2 p3 : Array Value} (F : FD c μ ν s) (hg : c.g = gT p1 p2 p3) {b : Addr} {o : Obj} (e : s.heap.get? b = some o) (hs : Obj.isSeq o = true) : b ∉ tabs := fun hb => by
  simp only [tabs, List.mem_cons, List.not_mem_nil, or_false] at hb
  have k : ∃ ps, s.heap.get? b = some (tabObj ps) := by
    rcases hb with rfl | rfl | rfl
    · exact ⟨p1, (F.froz 122 _ (by rw [hg]; rfl)).1⟩
    · exact ⟨p2, (F.froz 98 _ (by rw [hg]; rfl)).1⟩
    · exact ⟨p3, (F.froz 143 _ (by rw [hg]; rfl)).1⟩
  obtain ⟨ps, k⟩ := k
  rw [e] at k; cases k; cases hs
theorem not_own_seq {c : Cx} {μ : Vars} {ν : Muts} {s : Shared} (F : FD c μ ν s) {b : Addr} {o : Obj} (e : s.heap.get? b = some o) (hs : Obj.isSeq o = true) : b ∉ ownK c [] := fun hb => by
  obtain ⟨m, cm, hn, hc, _⟩ := F.vars
  rcases ownK_mem hb with rfl | ⟨n, h⟩ | h
  · exact ns_ne_seq hn e hs rfl
  · exact cell_ne_seq (hc n b h) e hs rfl
  · cases h

/-- end = reduce(_law_step(told), merged, begun); and the answer -/
theorem law_end (h : HL P hL) (A : Around) (room : Room A 10) (s : Shared) {deeds : Deeds} {bends : List Int} {mode : Nat} {p2 p3 : Array Value} {μ : Vars} {R : List Nat} {E : Value → Shared → Prop}
    (La : Last deeds bends mode R μ) (OK : OrderOk deeds (logsIn deeds bends) R) (hRl : R.length = deeds.length) :
    ExS (lcx prog w A hL P s (gT #[] p2 p3)) μ noMuts ((bodyAt P 146).drop 20) (LawEnd s) E := by
  have S : Std P (lcx prog w A hL P s (gT #[] p2 p3)) := lcx_std h
  have hm8 := La.hmany
  have LO := logs_ok deeds bends
  obtain ⟨o23, ho23, hfd23⟩ := (reduce_at h).obj
  obtain ⟨o127, ho127, hfd127⟩ := (step_at h).obj
  refine ExS.assignX fun s₁ F₁ => ?_
  refine eval_callFX (a := 23) F₁ (Ev.global S) hfd23 fun s₂ F₂ => ?_
  refine wpAny_items_cons (eval_callF (ds := [.list (deeds.map dl)]) F₂ (Ev.global S) ho127 hfd127 (by decide) (EvL.cons (Ev.name La.vtold) EvL.nil) fun s₃ vs k₃ r₃ => ?_) rfl
  have F₃ := F₂.keeps k₃
  refine wpAny_call (codeAny_mono (step_made h deeds A s₃ vs (fun _ => False) (room.le (by decide)) F₃.lib (fun _ q => q.elim) (fun _ q => q.elim) r₃ (F₃.froz 122 _ rfl).1) fun r s₄ hm => ?_)
  obtain ⟨f, bs, rfl, eff, ⟨ps, h122⟩, hbs, hS⟩ := hm
  have G₃ : FD (lcx prog w A hL P s noView) μ noMuts s₃ := FD.lessG (c := lcx prog w A hL P s noView) (g := gT #[] p2 p3) F₃ (fun _ _ e => by cases e)
  have F₄ : FD (lcx prog w A hL P s (gT ps p2 p3)) μ noMuts s₄ := FD.setF (c := lcx prog w A hL P s noView) (G₃.back eff (fun b hb => by
    subst hb
    exact Or.inr ⟨by decide, (show _ ∈ tabs by decide), rfl, _, (F₃.froz 122 _ rfl).1, rfl⟩)) (gT ps p2 p3) fun b o e => ⟨by
      by_cases hb : b = 122
      · subst hb; cases e; exact h122
      · refine eff.keep b o hb (F₃.froz b o ?_).1
        show gT #[] p2 p3 b = some o
        unfold gT at *
        rw [if_neg hb] at e ⊢
        exact e, gT_isField e⟩
  have hν0 : ∀ b, (noMuts b).isSome = true ↔ b ∈ ([] : List Addr) := fun b => by simp [noMuts]
  have O := ownAll (as := []) F₄ (fun _ => rfl) (fun _ q => q) hν0
  have G := F₄.rebase O
  have h' := HL.rebase h F₄ O
  have live₃ := ownK_live (c := lcx prog w A hL P s (gT #[] p2 p3)) F₃ (as := []) fun b hb => by cases hb
  have SA := hS _ h' (fun b hb => hideAll_eq fun q => by have := live₃ b q; rw [hbs b hb] at this; cases this) (fun b o e hs => by
    have e := (mask_some.mp e).2.2
    unfold libView
    rw [if_neg (not_tab_seq F₄ rfl e hs), hideAll_eq (not_own_seq F₄ e hs)]
    exact e)
  have st1 := lib_rebase F₄ O 23 o23 (by decide) ho23
  clear O live₃ hS
  generalize hideAll s₄.heap (ownK (lcx prog w A hL P s (gT ps p2 p3)) []) = hL2 at *
  have S2 : Std P (lcx prog w A hL2 P s (gT ps p2 p3)) := lcx_std h'
  obtain ⟨orr, fr, ho, hfd, hft, _, _⟩ := SA.fn
  refine wpAny_items_cons (wpAny_mono ((show Ev (lcx prog w A hL2 P s (gT ps p2 p3)) μ noMuts (.Name "merged" _) (nl R) from Ev.name La.vmerged) s₄ E G) (fun v s₅ h₅ => ?_) fun _ _ e => e) rfl
  refine wpAny_items_cons (wpAny_mono ((show Ev (lcx prog w A hL2 P s (gT ps p2 p3)) μ noMuts (.Name "begun" _) (nt mode) from Ev.name La.vbegun) s₅ E (G.keeps h₅.1)) (fun z s₆ h₆ => ?_) fun _ _ e => e) rfl
  have F₆ := G.keeps (h₅.1.trans h₆.1)
  refine Calls.spliced_nil ⟨F₆.lib.get 23 o23 (by decide) st1, ?_⟩
  have hacc : ∀ i d, (R.map nt)[i]? = some d → Pure prog w hL2 f 2 [nt (modeAt deeds R mode i), d] (nt (modeAt deeds R mode (i + 1))) := by
    intro i d hd
    obtain ⟨k, hk, rfl⟩ := map_get hd
    have hkm : k < deeds.length := (OK.mem k).mp (List.mem_of_getElem? hk)
    have G := dAt_good La.good k
    have hdk : deeds[k]? = some (dAt deeds k) := by unfold dAt; rw [List.getD_eq_getElem?_getD, List.getElem?_eq_getElem hkm]; rfl
    exact Pure.of_eq (step_pure h' SA hdk G.one G.two (by omega)) rfl (by rw [(step_mode La.good mode i k hk).1])
  refine wpAny_mono ((CallIs.ofPure (c := lcx prog w A hL2 P s (gT ps p2 p3)) (μ := μ) (room.le (by decide)) (reduce_pure h' (need := 2) (acc := fun i => nt (modeAt deeds R mode i)) ho hfd hft ⟨_, rfl⟩ hacc)) s₆ E [.ref f, v, z] F₆ ?_) (fun r s₇ h₇ => ?_) fun _ _ e => e
  · simp only [Reps]
    exact ⟨_, _, rfl, rfl, _, _, rfl, h₅.2.keeps h₆.1, _, _, rfl, h₆.2, rfl⟩
  obtain ⟨due, due2⟩ := due_mode La.good OK LO hRl La.hmode
  rw [List.length_map, due] at h₇
  have vdue := La.vdue
  refine store_on (c' := lcx prog w A hL2 P s (gT ps p2 p3)) (d := nt (dueOf deeds (logsIn deeds bends) mode)) rfl rfl rfl (F₆.keeps h₇.1) (lown _) h₇.2 ?_
  generalize dueOf deeds (logsIn deeds bends) mode = D0 at *
  obtain ⟨o96, ho96, hfd96⟩ := (filemode_at h').obj
  obtain ⟨o141, ho141, hfd141⟩ := (listing_at h').obj
  refine ExS.ret (d := .bool true) (Ev.of_eq (Ev.and (EvV.cons (b := true) (Ev.of_eq (Ev.cmp (Ev.name (d := nt D0) rfl) (Ev.name (d := nt D0) vdue) op_eqN) (by simp)) fun _ => EvV.one (b := true) (Ev.of_eq (Ev.cmp (Ev.callF (Ev.global S2) ho96 hfd96 (by decide) (EvL.cons (Ev.name (d := nt D0) rfl) EvL.nil) (CallIs.ofPure (room.le (by decide)) (filemode_pure h' D0)))
    (Ev.callF (Ev.global S2) ho141 hfd141 (by decide) (EvL.cons (Ev.name (d := nt D0) vdue) EvL.nil) (CallIs.ofPure (room.le (by decide)) (listing_pure h' D0))) op_eqS) (by rw [fmode_listing]; simp)))) rfl) fun v s' F r => ?_
  simp only [Rep] at r
  subst r
  exact ⟨rfl, F.done (fun b hb q => hb q) rfl⟩
end Mine
end
section
open PySem PySem.W PyProof.Rows
set_option autoImplicit false
set_option maxRecDepth 100000
set_option maxHeartbeats 1000000
namespace Mine
variable {P : Params} {prog : Program} {w : World} {hL : Heap}
/-- the law's body ends, and answers True -/
theorem law_all (h : HL P hL) (A : Around) (room : Room A 10) (s : Shared) (hfr : A.frames = some [callEnvC (fdAt P 146) s.heap.objs.size 146]) (script : List Int) (hscript : script.length ≤ 63) :
    ExS (lcx prog w A hL P s (gT #[] #[] #[])) (ofParams ["script"] [li script]) noMuts (bodyAt P 146) (LawEnd s) (fun _ _ => False) := by
  refine law_AB h A room s script hscript fun hL' μ deeds bends mode Lp as ρ p p2 p3 h' Fu RA => ?_
  refine law_try h' A room s hfr Fu RA fun R ρ₁ ρ' RA₁ M => ?_
  have LO := logs_ok deeds bends
  have asl : as.length = 12 := by rw [← LO.len, ← RA.map, List.length_map]
  obtain ⟨h1, h2, h3, OK⟩ := order_ok LO Fu.good RA₁ M
  have hRl : R.length = deeds.length := by have := h3.length_eq; simpa using this.symm
  have Fu' : Full deeds bends mode as (upd μ "merged" (nl R)) := { Fu.toRead.upd (x := "merged") (d := nl R) (by decide) with vtold := Fu.vtold, vrows := Fu.vrows, vbegun := Fu.vbegun, vstuck := Fu.vstuck }
  refine law_checks h' A room s Fu' (if_pos rfl) asl h1 h2 h3 OK fun μ1 Me => ?_
  refine law_order h' A room s Me OK hRl fun μ2 Me2 => ?_
  refine law_due h' A room s Me2 OK hRl fun μ3 La => ?_
  exact law_end h' A room s La OK hRl
end Mine
end
section
open PySem PySem.W PyProof.Rows
set_option Elab.async false
set_option maxRecDepth 100000
set_option maxHeartbeats 1000000
namespace Mine
theorem well_list {P : Params} {h : Heap} {a : Addr} {xs : List WData} (x : Well P h (.ref a) (.list xs)) : ∃ vs : List Value, h.get? a = some { cls := .type "list", data := .seq vs.toArray } := by
  cases x with
  | list e _ => exact ⟨_, e⟩
theorem law_at {P : Params} {hL : Heap} (h : HL P hL) : DefAt hL 146 (fdAt P 146) (bodyAt P 146) ["script"] := def_at h 146 ["script"] 145
/-- into the frame of the walk -/
theorem ex_of {prog : Program} {w : World} {A : Around} {hL : Heap} {s : Shared} {env : Env} {N : Addr → Prop} {μ : Vars} {b : List Stmt} {Q : Flow → Shared → Prop} {E : Value → Shared → Prop} (hT : ∀ t ∈ tabs, s.heap.get? t = some (tabObj #[]))
    (h : ExS ⟨prog, w, A, hL, s, (· ∈ tabs), fun _ => False, gT #[] #[] #[], env, fun _ => true, N⟩ μ noMuts b (LawEnd s) (fun _ _ => False)) (hq : ∀ f s', LawEnd s f s' → Q f s') :
    Ex ⟨prog, w, A, hL, s, fun _ => False, fun _ => False, noView, env, fun _ => true, N⟩ μ noMuts b Q E := by
  intro s₁ F₁
  have F := FD.setF (c := ⟨prog, w, A, hL, s, (· ∈ tabs), fun _ => False, noView, env, fun _ => true, N⟩) (FD.moreX F₁ (· ∈ tabs) fun _ q => q.elim) (gT #[] #[] #[]) fun b o e => ⟨F₁.keep b o (fun q => q) (by
      unfold gT at e
      split at e
      · rename_i q; subst q; cases e; exact hT 122 (by decide)
      · split at e
        · rename_i q; subst q; cases e; exact hT 98 (by decide)
        · split at e
          · rename_i q; subst q; cases e; exact hT 143 (by decide)
          · cases e), gT_isField e⟩
  exact wpAny_mono (h.go s₁ F) (fun f s' p => hq f s' p) fun _ _ q => q.elim
/-- the law, called upon a list of ints -/
theorem law_called {P : Params} {prog : Program} {w : World} {s : Shared} {R : Result → Shared → Prop} (h : HL P s.heap) (hT : ∀ t ∈ tabs, s.heap.get? t = some (tabObj #[])) {l : Addr} {vals : List Value} {script : List Int} (hs : script.length ≤ 63)
    (hl : s.heap.get? l = some { cls := .type "list", data := .seq vals.toArray }) (hI : IntsAre vals script) (hR : ∀ s', Done s s' → R (.ok (.ret (.bool true))) s') :
    codeAny (model prog w) callerA (.call (.ref 146) ⟨[.ref l], []⟩) R s := by
  have room : Room callerA 11 := ⟨by decide, by decide, rfl⟩
  have lib : Lib s.heap s.heap := ⟨fun b o _ e => e, fun t ht => by rw [hT t ht]; rfl⟩
  have hr : Reps (mask (fun _ => False) noMuts s.heap) [li script] [.ref l] := by
    simp only [Reps]
    refine ⟨_, _, rfl, ?_, rfl⟩
    simp only [li, Rep]
    exact ⟨l, vals.toArray, rfl, ⟨_, mask_some.mpr ⟨fun q => q, rfl, hl⟩, rfl, rfl, _, rfl⟩, Reps.ofInts hI⟩
  refine call_def (X := fun _ => False) (H := fun _ => False) (ν := noMuts) (law_at h) rfl (by decide) lib (fun _ q => q.elim) (fun _ q => q.elim) (fun b e => by cases e) (fun b l e => by cases e) hr ?_
  refine ex_of ?_ ?_ ?_
  rotate_left
  · exact law_all (prog := prog) (w := w) h (callerA.deeper (callEnvC (fdAt P 146) s.heap.objs.size 146)) (Room.deeper room) s (Around.frames_deeper rfl) script hs
  · rintro f s' ⟨e, d⟩
    subst e
    exact hR s' d
  · exact hT
end Mine
end
open PySem PySem.W PyProof.Rows
set_option Elab.async false
set_option maxRecDepth 100000
set_option maxHeartbeats 1000000
theorem PySem.Challenge.cw_oy0136_01_holds : PySem.Challenge.rw_oy0136_01.Holds := by
  refine Mine.hd ?_
  intro w s₀ s₁ mg mb G Y fa o pm cd doc dV kV ho hd hcd hD hmg hg args vals as hpre hlay hrd hwl hlo
  have KX := km_in_of Y
  have hT8 := km_tabs_of Y
  refine Ground.open G ?_
  intro T B D TE TW
  clear hd hD hcd
  wrow_args hpre hlay hrd hwl hlo
  refine enter_call ?_
  have e1 := mg_of (n := "law") KX T.g (v := .ref 146) (by kernel_rfl)
  have e2 : Value.ref fa = .ref 146 := Option.some.inj (hmg.symm.trans e1)
  cases e2
  have hTA : TabsAt Mine.heads s₁.heap := fun q hq => by
    simp only [Mine.heads, List.mem_cons, List.not_mem_nil, or_false] at hq
    rcases hq with rfl | rfl | rfl
    · exact ⟨codeHd_of_K KX (by kernel_rfl), hT8 122 (by decide)⟩
    · exact ⟨codeHd_of_K KX (by kernel_rfl), hT8 98 (by decide)⟩
    · exact ⟨codeHd_of_K KX (by kernel_rfl), hT8 143 (by decide)⟩
  refine kn_post hTA (fun _ _ => rfl) ?_
  rename_i script hs1 hlay0 hLay hr1 hl2 a4 a3 l vals a0 hL ra w1 r0 hI hr hc1 hc
  have bmain : Mine.BMain s₁.heap := by
    obtain ⟨bm, ob, q1, q2, q3, q4, q5, q6⟩ := T.bmain
    refine ⟨mg, bm, ob, T.g, q1, q2, fun q => ?_, q3, q4, q5, q6⟩
    have := hT8 bm q
    rw [q3] at this; cases this; cases q4
  have H : Mine.HL w.params s₁.heap := ⟨⟨s₁.heap, KX, ⟨mb, T.b, T.builtins⟩, ⟨T.nolimit, bmain, fun q hq => (hTA q hq).1⟩, fun b o _ e => e⟩⟩
  obtain ⟨vs, hobj⟩ := Mine.well_list w1
  have hv : vs = vals := by
    obtain ⟨o', e', _, n, d'⟩ := hL
    rw [hobj] at e'; cases e'
    cases d'
    rfl
  subst hv
  refine Mine.law_called H hT8 (script := script) (by omega) hobj hI fun s' D => ?_
  obtain ⟨hh, tk, e⟩ := D.same
  refine ⟨⟨Or.inl ⟨.bool true, .bool true, [], rfl, fun _ => rfl, .bool true, by kernel_rfl, fun _ => ⟨List.nodup_nil, fun a ha => by cases ha⟩⟩, fun b o e => ?_, by rw [e], by rw [e]; exact hg⟩, ?_⟩
  · refine D.keep b o (fun q => ?_) (of_hideAll _ e)
    have e : (hideAll s₁.heap Mine.tabs).get? b = some o := e
    rw [hideAll_none _ q] at e; cases e
  · exact ⟨D.tab 122 (by decide), D.tab 98 (by decide), D.tab 143 (by decide), trivial⟩
