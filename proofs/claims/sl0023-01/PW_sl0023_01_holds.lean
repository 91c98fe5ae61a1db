import PyProof.Rows.All
import Wide.All
import OpenK.AllK
import Wide.FinOn
import Lean
import PySem.Challenge.RW_sl0023_01
set_option Elab.async false
set_option genSizeOf false
set_option genInjectivity false
set_option maxRecDepth 100000
set_option maxHeartbeats 2000000
namespace Mine.Internal
noncomputable section
open PySem PySem.W PyProof.Rows
noncomputable abbrev Flds := List (Str × PyData)
inductive D where
  | p (d : PyData)
  | ws (f : Flds)
  | wsl (l : List Flds)
  | tape
  | self
inductive Slot where
  | v (d : D)
  | own (l : List PyData)
  | own2 (l : List (List PyData))
structure TS where
  tape : Option (List Nat)
  self : Option Flds
noncomputable abbrev Gam := List (Option Slot)
structure Sp where
  τ : Addr
  x : Addr
  dx : Addr
noncomputable def IsTup (o : Obj) : Prop := o.cls = .type "tuple" ∧ ∃ vs n, o.data = .seq vs n
noncomputable def Stable (X : Addr → Prop) (h h' : Heap) : Prop := ∀ b o, h.get? b = some o → (X b → IsTup o) → h'.get? b = some o
section
variable {X Y : Addr → Prop} {h h' : Heap} {v : Value} {d : PyData}
theorem reads_stable (k : Stable X h h') {as : List Addr} (r : Reads h v d as) : (∀ a ∈ as, ¬ X a) → Reads h' v d as :=
  Reads.rec (motive_1 := fun v d as _ => (∀ a ∈ as, ¬ X a) → Reads h' v d as) (motive_2 := fun vs ds as _ => (∀ a ∈ as, ¬ X a) → ReadsAll h' vs ds as)
    (fun _ => .none) (fun b _ => .bool b) (fun i t _ => .int i t) (fun x t _ => .str x t)
    (fun h1 h2 h3 _ f q => .list (k _ _ h1 fun z => absurd z (q _ (List.mem_cons_self ..))) h2 h3 (f fun a m => q a (List.mem_cons_of_mem _ m)))
    (fun h1 h2 h3 _ f q => .tuple (k _ _ h1 fun _ => ⟨h2, _, _, h3⟩) h2 h3 (f q))
    (fun h1 h2 h3 _ _ f g q => .dict (k _ _ h1 fun z => absurd z (q _ (List.mem_cons_self ..))) h2 h3 (f fun a m => q a (List.mem_cons_of_mem _ (List.mem_append_left _ m))) (g fun a m => q a (List.mem_cons_of_mem _ (List.mem_append_right _ m))))
    (fun _ => .nil) (fun _ _ f g q => .cons (f fun a m => q a (List.mem_append_left _ m)) (g fun a m => q a (List.mem_append_right _ m))) r
noncomputable def Fz (h : Heap) (X : Addr → Prop) (a : Addr) : Prop := ¬ X a ∧ ∃ o, h.get? a = some o ∧ o.dict = none
theorem Fz.stable {a} (x : Fz h X a) (k : Stable X h h') : Fz h' X a := ⟨x.1, x.2.imp fun o q => ⟨k a o q.1 fun z => absurd z x.1, q.2⟩⟩
noncomputable def RdP (h : Heap) (X : Addr → Prop) (v : Value) (d : PyData) : Prop := ∃ as, Reads h v d as ∧ ∀ a ∈ as, Fz h X a
theorem RdP.stable (x : RdP h X v d) (k : Stable X h h') : RdP h' X v d := x.imp fun _ q => ⟨reads_stable k q.1 fun a m => (q.2 a m).1, fun a m => (q.2 a m).stable k⟩
theorem RdP.gro (x : RdP h X v d) (k : ∀ a, Y a → X a ∨ h.get? a = none) : RdP h Y v d := x.imp fun _ q => ⟨q.1, fun a m => ⟨fun z => (k a z).elim (q.2 a m).1 fun e => (q.2 a m).2.elim fun _ w => (nomatch e.symm.trans w.1), (q.2 a m).2⟩⟩
inductive All2 (R : Value → β → Prop) : List Value → List β → Prop
  | nil : All2 R [] []
  | cons {v d vs ds} : R v d → All2 R vs ds → All2 R (v :: vs) (d :: ds)
theorem All2.imp {β : Type} {R S : Value → β → Prop} {vs ds} (f : ∀ v d, R v d → S v d) (a : All2 R vs ds) : All2 S vs ds := by
  induction a with
  | nil => exact .nil
  | cons x _ ih => exact .cons (f _ _ x) ih
theorem All2.length {β : Type} {R : Value → β → Prop} {vs ds} (a : All2 R vs ds) : vs.length = ds.length := by
  induction a with
  | nil => rfl
  | cons _ _ ih => exact congrArg (· + 1) ih
theorem All2.append {β : Type} {R : Value → β → Prop} {vs ds us es} (a : All2 R vs ds) (b : All2 R us es) : All2 R (vs ++ us) (ds ++ es) := by
  induction a with
  | nil => exact b
  | cons x _ ih => exact .cons x ih
theorem All2.get {β : Type} {R : Value → β → Prop} {vs ds} (a : All2 R vs ds) : ∀ {i : Nat} {d}, ds[i]? = some d → ∃ v, vs[i]? = some v ∧ R v d := by
  induction a with
  | nil => intro i d e; cases e
  | cons x _ ih =>
    intro i d e
    cases i with
    | zero => cases e; exact ⟨_, rfl, x⟩
    | succ i => exact ih e
theorem readsAll_2 {vs : List Value} {ds : List PyData} {as : List Addr} (r : ReadsAll h vs ds as) : (∀ a ∈ as, Fz h X a) → All2 (RdP h X) vs ds :=
  ReadsAll.rec (motive_1 := fun _ _ _ _ => True) (motive_2 := fun vs ds as _ => (∀ a ∈ as, Fz h X a) → All2 (RdP h X) vs ds)
    trivial (fun _ => trivial) (fun _ _ => trivial) (fun _ _ => trivial) (fun _ _ _ _ _ => trivial) (fun _ _ _ _ _ => trivial) (fun _ _ _ _ _ _ _ => trivial)
    (fun _ => .nil) (fun h1 _ _ g q => .cons ⟨_, h1, fun a m => q a (List.mem_append_left _ m)⟩ (g fun a m => q a (List.mem_append_right _ m))) r
theorem all2_reads {vs : List Value} {ds : List PyData} (a : All2 (RdP h X) vs ds) : ∃ as, ReadsAll h vs ds as ∧ ∀ a ∈ as, Fz h X a := by
  induction a with
  | nil => exact ⟨[], .nil, fun _ m => nomatch m⟩
  | cons x _ ih =>
    obtain ⟨as, r, q⟩ := x
    obtain ⟨bs, r', q'⟩ := ih
    exact ⟨as ++ bs, .cons r r', fun a m => (List.mem_append.mp m).elim (q a) (q' a)⟩
noncomputable def LstAt (h : Heap) (X : Addr → Prop) (v : Value) (l : List PyData) : Prop := ∃ a vs n sl, v = .ref a ∧ ¬ X a ∧ h.get? a = some ⟨.type "list", none, .seq vs n, sl⟩ ∧ All2 (RdP h X) vs.toList l
noncomputable def InvP (h : Heap) (X : Addr → Prop) (v : Value) : PyData → Prop
  | .int i => ∃ t, v = .int i t
  | .str x => ∃ t, v = .str x t
  | .bool b => v = .bool b
  | .none => v = .none
  | .list l => LstAt h X v l
  | .tuple l => ∃ a o vs n, v = .ref a ∧ h.get? a = some o ∧ o.cls = .type "tuple" ∧ o.data = .seq vs n ∧ All2 (RdP h X) vs.toList l
  | _ => True
theorem RdP.inv (r : RdP h X v d) : InvP h X v d := by
  obtain ⟨as, r, q⟩ := r
  cases r with
  | none => exact rfl
  | bool b => exact rfl
  | int i t => exact ⟨t, rfl⟩
  | str x t => exact ⟨t, rfl⟩
  | @list a o vs n _ _ h1 h2 h3 h4 =>
    obtain ⟨q1, o', e, hd⟩ := q _ (List.mem_cons_self ..)
    obtain ⟨cls, dd, data, sl⟩ := o
    cases h1.symm.trans e
    cases h2; cases h3; cases hd
    exact ⟨a, vs, n, sl, rfl, q1, h1, readsAll_2 h4 fun a m => q a (List.mem_cons_of_mem _ m)⟩
  | tuple h1 h2 h3 h4 => exact ⟨_, _, _, _, rfl, h1, h2, h3, readsAll_2 h4 q⟩
  | dict => exact trivial
theorem RdP.int (i : Int) (t : Tok) : RdP h X (.int i t) (.int i) := ⟨[], .int i t, fun _ m => nomatch m⟩
theorem RdP.str (x : Str) (t : Tok) : RdP h X (.str x t) (.str x) := ⟨[], .str x t, fun _ m => nomatch m⟩
theorem RdP.bool (b : Bool) : RdP h X (.bool b) (.bool b) := ⟨[], .bool b, fun _ m => nomatch m⟩
theorem RdP.nul : RdP h X .none .none := ⟨[], .none, fun _ m => nomatch m⟩
theorem RdP.list {l : List PyData} (r : LstAt h X v l) : RdP h X v (.list l) := by
  obtain ⟨a, vs, n, sl, rfl, q1, h1, r⟩ := r
  obtain ⟨as, r, q⟩ := all2_reads r
  exact ⟨a :: as, .list h1 rfl rfl r, fun b m => (List.mem_cons.mp m).elim (fun e => e ▸ ⟨q1, _, h1, rfl⟩) (q b)⟩
theorem RdP.tuple {a : Addr} {o : Obj} {vs : Array Value} {n : Nat} {l : List PyData} (h1 : h.get? a = some o) (h2 : o.cls = .type "tuple") (h3 : o.data = .seq vs n) (h5 : All2 (RdP h X) vs.toList l) : RdP h X (.ref a) (.tuple l) :=
  (all2_reads h5).imp fun _ q => ⟨.tuple h1 h2 h3 q.1, q.2⟩
end
structure Cx where
  prog : Program
  w : World
  K : Frag
  C : Addr
  h₀ : Heap
  mg : Str → Option Value
  mb : Str → Option Value
noncomputable abbrev Cx.M (c : Cx) : Model := model c.prog c.w
structure Cx.OK (c : Cx) : Prop where
  k : c.K.In c.h₀
  nl : c.h₀.NoLimit
  g : c.h₀.Ns mainGlobals c.mg
  b : c.h₀.Ns builtinsNs c.mb
  boot : ∀ x : Str, x ≠ "__name__" → c.mb x = bootBuiltins x
  ga : findIn c.K (.ref c.C) "__getattribute__" = some (some (.builtin "object.__getattribute__"))
  gt : findIn c.K (.ref c.C) "__getattr__" = some none
  sa : findIn c.K (.ref c.C) "__setattr__" = some (some (.builtin "object.__setattr__"))
  po : plainOver c.K c.C = true
  hd : (clsIn c.K c.C).any (·.hasDict) = true
  mkc : makesIn c.K c.C = true
  na : ∀ nm : Str, nm ∈ (["raw", "n", "nt", "norm", "is_simple"] : List Str) → findIn c.K (.ref c.C) nm = some none
noncomputable def St (c : Cx) (h : Heap) : Prop := ∀ b o, c.h₀.get? b = some o → h.get? b = some o
section
variable {c : Cx} {h h' : Heap} {X Y : Addr → Prop}
theorem St.k (x : St c h) (o : c.OK) : c.K.In h := o.k.keeps x
noncomputable def ObjAt (c : Cx) (h : Heap) (X : Addr → Prop) (x dx : Addr) (fs : Flds) : Prop :=
  ∃ m, h.get? x = some ⟨.ref c.C, some dx, .plain, #[]⟩ ∧ h.Ns1 dx m ∧ (∀ nm d, fs.lookup nm = some d → ∃ v, m nm = some v ∧ RdP h X v d) ∧ ∀ nm, fs.lookup nm = none → m nm = none
noncomputable def WSAt (c : Cx) (h : Heap) (X : Addr → Prop) (v : Value) (fs : Flds) : Prop := ∃ x dx, v = .ref x ∧ ¬ X x ∧ ¬ X dx ∧ ObjAt c h X x dx fs
theorem ObjAt.mono {x dx fs} (a : ObjAt c h X x dx fs) (k1 : ∀ o, h.get? x = some o → h'.get? x = some o) (k2 : ∀ o, h.get? dx = some o → h'.get? dx = some o) (k : ∀ v d, RdP h X v d → RdP h' Y v d) : ObjAt c h' Y x dx fs :=
  a.imp fun _ q => ⟨k1 _ q.1, q.2.1.at k2, fun nm d e => (q.2.2.1 nm d e).imp fun v q => ⟨q.1, k v d q.2⟩, q.2.2.2⟩
theorem WSAt.stable {v fs} (a : WSAt c h X v fs) (k : Stable X h h') : WSAt c h' X v fs := by
  obtain ⟨x, dx, e, n1, n2, o⟩ := a
  exact ⟨x, dx, e, n1, n2, o.mono (fun o q => k _ _ q fun z => absurd z n1) (fun o q => k _ _ q fun z => absurd z n2) fun v d r => r.stable k⟩
theorem WSAt.gro {v fs} (a : WSAt c h X v fs) (k : ∀ a, Y a → X a ∨ h.get? a = none) : WSAt c h Y v fs := by
  obtain ⟨x, dx, e, n1, n2, o⟩ := a
  exact ⟨x, dx, e, fun z => (k _ z).elim n1 fun w => o.elim fun _ q => (nomatch w.symm.trans q.1), fun z => (k _ z).elim n2 fun w => o.elim fun _ q => q.2.1.elim fun _ q => q.elim fun _ q => q.elim fun _ q => (nomatch w.symm.trans q.1), o.mono (fun o q => q) (fun o q => q) fun v d r => r.gro k⟩
noncomputable def Rd (c : Cx) (P : Sp) (h : Heap) (X : Addr → Prop) (v : Value) : D → Prop
  | .p d => RdP h X v d
  | .ws w => WSAt c h X v w
  | .wsl l => ∃ a o vs n, v = .ref a ∧ ¬ X a ∧ h.get? a = some o ∧ o.cls = .type "list" ∧ o.data = .seq vs n ∧ All2 (WSAt c h X) vs.toList l
  | .tape => v = .ref P.τ
  | .self => v = .ref P.x
theorem Rd.stable {P : Sp} {v} {d : D} (a : Rd c P h X v d) (k : Stable X h h') : Rd c P h' X v d := by
  cases d with
  | p _ => exact RdP.stable a k
  | ws _ => exact WSAt.stable a k
  | wsl _ =>
    obtain ⟨a, o, vs, n, e, q, g, c1, d1, r⟩ := a
    exact ⟨a, o, vs, n, e, q, k _ _ g fun z => absurd z q, c1, d1, r.imp fun _ _ z => z.stable k⟩
  | tape => exact a
  | self => exact a
theorem Rd.gro {P : Sp} {v} {d : D} (a : Rd c P h X v d) (k : ∀ a, Y a → X a ∨ h.get? a = none) : Rd c P h Y v d := by
  cases d with
  | p _ => exact RdP.gro a k
  | ws _ => exact WSAt.gro a k
  | wsl _ =>
    obtain ⟨a, o, vs, n, e, q, g, c1, d1, r⟩ := a
    exact ⟨a, o, vs, n, e, fun z => (k _ z).elim q fun w => (nomatch w.symm.trans g), g, c1, d1, r.imp fun _ _ z => z.gro k⟩
  | tape => exact a
  | self => exact a
theorem RdP.anti {v d} (a : RdP h X v d) (k : ∀ a, Y a → X a) : RdP h Y v d := a.gro fun b z => .inl (k b z)
theorem Rd.anti {P : Sp} {v} {d : D} (a : Rd c P h X v d) (k : ∀ a, Y a → X a) : Rd c P h Y v d := a.gro fun b z => .inl (k b z)
end
end
noncomputable section
open PySem PySem.W PyProof.Rows
noncomputable abbrev Scp := List (Str × NameKind)
noncomputable def Slot.toD : Slot → D
  | .v d => d
  | .own l => .p (.list l)
  | .own2 l => .p (.list (l.map .list))
noncomputable def gget (Γ : Gam) (k : Nat) : Option Slot := (Γ[k]?).join
noncomputable def Bound (h : Heap) (env : Env) (x : Str) (v : Value) : NameKind → Prop
  | .local => ∃ m, h.Ns env.locals m ∧ m x = some v
  | .cell | .free => ∃ a, env.cells.lookup x = some a ∧ h.IsCell a (some v)
  | _ => False
structure EnvS (sc : Scp) (env : Env) : Prop where
  hsc : env.scope.names = sc
  fk : env.scope.kind = .function
  nd : (sc.map (·.1)).Nodup
  gl : env.globals = mainGlobals
  bl : env.builtins = builtinsNs
  cells : ∀ x kd, (x, kd) ∈ sc → (kd = .cell ∨ kd = .free) → ∃ a, env.cells.lookup x = some a
  apart : ∀ x y a, env.cells.lookup x = some a → env.cells.lookup y = some a → x = y
noncomputable def ERead (c : Cx) (P : Sp) (sc : Scp) (h : Heap) (X : Addr → Prop) (env : Env) (Γ : Gam) : Prop :=
  ∀ k x kd sl, sc[k]? = some (x, kd) → gget Γ k = some sl → ∃ v, Bound h env x v kd ∧ Rd c P h X v sl.toD
noncomputable def TapeAt (h : Heap) (a : Addr) (bs : List Nat) : Prop :=
  ∃ d vs sl, h.get? a = some ⟨.type "bytes_iterator", d, .fields vs, sl⟩ ∧
    ((∃ B t i, vs = #[.bytes B t, .int (Int.ofNat i) 0] ∧ bs = (B.toList.drop i).map (·.toNat)) ∨ (bs = [] ∧ ∃ v, vs = #[.none, v]))
structure SpOK (c : Cx) (P : Sp) (h : Heap) (X : Addr → Prop) (T : TS) : Prop where
  tape : ∀ bs, T.tape = some bs → X P.τ ∧ c.h₀.get? P.τ = none ∧ TapeAt h P.τ bs
  self : ∀ fs, T.self = some fs → X P.dx ∧ c.h₀.get? P.dx = none ∧ ¬ X P.x ∧ ObjAt c h X P.x P.dx fs
structure Out (P : Sp) (T T' : TS) (s s' : Shared) : Prop where
  same : ∃ h tk, s' = { s with heap := h, toks := tk }
  keep : ∀ b o, s.heap.get? b = some o → (b = P.τ → T.tape = none) → s'.heap.get? b = some o
  nn : T.tape = none ↔ T'.tape = none
  sf : T'.self = T.self
noncomputable abbrev Keep (h h' : Heap) : Prop := ∀ b o, h.get? b = some o → h'.get? b = some o
section
variable {c : Cx} {P : Sp} {T T' T'' : TS} {s s' s'' : Shared} {X : Addr → Prop} {sc : Scp} {env : Env} {Γ : Gam} {h h' : Heap}
theorem Out.all {tk} (k : Keep s.heap h) : Out P T T s { s with heap := h, toks := tk } := ⟨⟨_, _, rfl⟩, fun b o e _ => k b o e, Iff.rfl, rfl⟩
theorem Out.refl (P T) (s : Shared) : Out P T T s s := Out.all (tk := s.toks) fun _ _ e => e
theorem Out.trans (a : Out P T T' s s') (b : Out P T' T'' s' s'') : Out P T T'' s s'' := by
  obtain ⟨⟨h, tk, rfl⟩, k1, n1, f1⟩ := a
  obtain ⟨⟨h', tk', rfl⟩, k2, n2, f2⟩ := b
  exact ⟨⟨_, _, rfl⟩, fun b o e q => k2 b o (k1 b o e q) fun z => n1.mp (q z), n1.trans n2, f2.trans f1⟩
theorem TapeAt.tau {a} {bs} (t : TapeAt h a bs) {o : Obj} (e : h.get? a = some o) : o.cls = .type "bytes_iterator" ∧ ∃ vs, o.data = .fields vs := by
  obtain ⟨d, vs, sl, g, _⟩ := t
  cases e.symm.trans g
  exact ⟨rfl, vs, rfl⟩
theorem Out.nt (a : Out P T T' s s') (q : SpOK c P s.heap X T) {b : Addr} {o : Obj} (e : s.heap.get? b = some o) (hf : X P.τ → c.h₀.get? P.τ = none → (∃ vs, o.data = .fields vs) → o.cls = .type "bytes_iterator" → b ≠ P.τ) : s'.heap.get? b = some o := a.keep b o e fun hb => by
  cases ht : T.tape with
  | none => rfl
  | some bs =>
    obtain ⟨x1, x2, t⟩ := q.tape bs ht
    obtain ⟨hc, hd⟩ := t.tau (hb ▸ e)
    exact absurd hb (hf x1 x2 hd hc)
theorem Out.stable (a : Out P T T' s s') (q : SpOK c P s.heap X T) : Stable X s.heap s'.heap := fun b o e z => a.nt q e fun x1 _ _ hc hb => by
  exact absurd (Value.type.inj (hc.symm.trans (z (hb ▸ x1)).1)) (by decide)
theorem Out.st (a : Out P T T' s s') (q : SpOK c P s.heap X T) (x : St c s.heap) : St c s'.heap := fun b o e => a.nt q (x b o e) fun _ x2 _ _ hb => by rw [← hb, e] at x2; cases x2
theorem Out.bound (a : Out P T T' s s') (q : SpOK c P s.heap X T) {x : Str} {v : Value} {kd : NameKind} (hb : Bound s.heap env x v kd) : Bound s'.heap env x v kd := by
  have cell : (∃ a, env.cells.lookup x = some a ∧ s.heap.IsCell a (some v)) → ∃ a, env.cells.lookup x = some a ∧ s'.heap.IsCell a (some v) := fun z =>
    z.imp fun b l => ⟨l.1, l.2.imp fun o g => ⟨a.nt q g.1 fun _ _ f => f.elim fun _ f => (nomatch g.2.symm.trans f), g.2⟩⟩
  cases kd with
  | «local» =>
    obtain ⟨m, hn, e⟩ := hb
    refine ⟨m, hn.at fun o g => a.nt q g fun _ _ f => ?_, e⟩
    obtain ⟨o', es, ep, g', hd, _⟩ := hn
    obtain ⟨_, f⟩ := f
    cases g.symm.trans g'
    rw [hd] at f; cases f
  | cell => exact cell hb
  | free => exact cell hb
  | globalExplicit => exact hb.elim
  | globalImplicit => exact hb.elim
theorem Out.eread (a : Out P T T' s s') (q : SpOK c P s.heap X T) (r : ERead c P sc s.heap X env Γ) : ERead c P sc s'.heap X env Γ :=
  fun k x kd sl h1 h2 => (r k x kd sl h1 h2).imp fun _ z => ⟨a.bound q z.1, z.2.stable (a.stable q)⟩
theorem Out.xlt (a : Out P T T' s s') (q' : SpOK c P s'.heap X T') (x : ∀ b, X b → ∃ o, s.heap.get? b = some o) : ∀ b, X b → ∃ o, s'.heap.get? b = some o := fun b hb => by
  cases ht : T'.tape with
  | none => exact (x b hb).imp fun o e => a.keep _ o e fun _ => a.nn.mpr ht
  | some bs =>
    by_cases hbt : b = P.τ
    · obtain ⟨_, _, d, vs, sl, g, _⟩ := q'.tape bs ht; exact ⟨_, hbt ▸ g⟩
    · exact (x b hb).imp fun o e => a.keep b o e fun z => absurd z hbt
theorem SpOK.keeps (q : SpOK c P h X T) (k : Keep h h') : SpOK c P h' X T :=
  ⟨fun bs e => (q.tape bs e).imp_right fun z => z.imp_right fun z => z.imp fun _ z => z.imp fun _ z => z.imp fun _ z => z.imp_left (k _ _),
   fun fs e => (q.self fs e).imp_right fun z => z.imp_right fun z => z.imp_right fun z => z.mono (fun o => k _ o) (fun o => k _ o) fun _ _ r => r.stable fun b o e _ => k b o e⟩
end
noncomputable def AOK (n : Nat) (A : Around) : Prop := A.handled = none ∧ A.depth + 20 * n ≤ 900 ∧ A.units + 60 * n ≤ 8000
theorem AOK.mono {n m A} (h : AOK n A) (k : m ≤ n) : AOK m A := ⟨h.1, by have := h.2.1; (first | (simp +arith only; done) | lia | omega), by have := h.2.2; (first | (simp +arith only; done) | lia | omega)⟩
structure PostE (c : Cx) (P : Sp) (X : Addr → Prop) (T : TS) (s : Shared) (d : D) (T' : TS) (v : Value) (s' : Shared) : Prop where
  out : Out P T T' s s'
  sp : SpOK c P s'.heap X T'
  rd : Rd c P s'.heap X v d
structure PreC (c : Cx) (P : Sp) (n : Nat) (A : Around) (s : Shared) (X : Addr → Prop) (T : TS) : Prop where
  ok : c.OK
  a : AOK n A
  st : St c s.heap
  xlt : ∀ a, X a → ∃ o, s.heap.get? a = some o
  sp : SpOK c P s.heap X T
structure Pre (c : Cx) (P : Sp) (n : Nat) (sc : Scp) (A : Around) (env : Env) (s : Shared) (X : Addr → Prop) (Γ : Gam) (T : TS) : Prop where
  pc : PreC c P n A s X T
  es : EnvS sc env
  cx : ∀ x a, env.cells.lookup x = some a → ∃ v, s.heap.IsCell a v
  er : ERead c P sc s.heap X env Γ
section
variable {c : Cx} {P : Sp} {n m : Nat} {T T' T'' : TS} {s s' s'' : Shared} {X : Addr → Prop} {sc : Scp} {A : Around} {env : Env} {Γ : Gam} {d : D} {v : Value} {E : Value → Shared → Prop} {e : PySem.Expr}
theorem PreC.next (p : PreC c P n A s X T) (o : Out P T T' s s') (q : SpOK c P s'.heap X T') : PreC c P n A s' X T' := ⟨p.ok, p.a, o.st p.sp p.st, o.xlt q p.xlt, q⟩
theorem Pre.next (p : Pre c P n sc A env s X Γ T) (o : Out P T T' s s') (q : SpOK c P s'.heap X T') : Pre c P n sc A env s' X Γ T' := ⟨p.pc.next o q, p.es, fun x a z => (p.cx x a z).imp fun _ z => z.imp fun _ g => ⟨o.nt p.pc.sp g.1 fun _ _ f => f.elim fun _ f => (nomatch g.2.symm.trans f), g.2⟩, o.eread p.pc.sp p.er⟩
theorem PreC.mono (p : PreC c P n A s X T) (h : m ≤ n) : PreC c P m A s X T := ⟨p.ok, p.a.mono h, p.st, p.xlt, p.sp⟩
theorem PostE.trans (o : Out P T T' s s') (p : PostE c P X T' s' d T'' v s'') : PostE c P X T s d T'' v s'' := ⟨o.trans p.out, p.sp, p.rd⟩
noncomputable def Ev (c : Cx) (n : Nat) (sc : Scp) (Γ : Gam) (T : TS) (e : PySem.Expr) (d : D) (T' : TS) : Prop :=
  ∀ P A env s X E, Pre c P n sc A env s X Γ T → wpAny c.M A (eval e env) (PostE c P X T s d T') E s
noncomputable def Tr (c : Cx) (n : Nat) (sc : Scp) (Γ : Gam) (T : TS) (e : PySem.Expr) (b : Bool) (T' : TS) : Prop :=
  ∀ P A env s X E, Pre c P n sc A env s X Γ T → wpAny c.M A (isTrue e env (eval e env)) (fun v s' => Out P T T' s s' ∧ SpOK c P s'.heap X T' ∧ v = b) E s
theorem Ev.run (h : Ev c n sc Γ T e d T') (p : Pre c P n sc A env s X Γ T) {Q : Value → Shared → Prop} (k : ∀ v s', Pre c P n sc A env s' X Γ T' → Out P T T' s s' → Rd c P s'.heap X v d → Q v s') : wpAny c.M A (eval e env) Q E s :=
  wpAny_mono (h P A env s X E p) (fun v s' q => k v s' (p.next q.out q.sp) q.out q.rd) fun _ _ e => e
theorem Tr.run {b : Bool} (h : Tr c n sc Γ T e b T') (p : Pre c P n sc A env s X Γ T) {Q : Bool → Shared → Prop} (k : ∀ s', Pre c P n sc A env s' X Γ T' → Out P T T' s s' → Q b s') : wpAny c.M A (isTrue e env (eval e env)) Q E s :=
  wpAny_mono (h P A env s X E p) (fun v s' q => by obtain ⟨q1, q2, rfl⟩ := q; exact k s' (p.next q1 q2) q1) fun _ _ e => e
theorem PostE.tok (q : SpOK c P s.heap X T) (tk : Nat) (r : Rd c P s.heap X v d) : PostE c P X T s d T v { s with toks := tk } := ⟨Out.all fun _ _ e => e, q, r⟩
theorem PostE.here (q : SpOK c P s.heap X T) (r : Rd c P s.heap X v d) : PostE c P X T s d T v s := PostE.tok q s.toks r
theorem fresh_not (hx : ∀ a, X a → ∃ o, s.heap.get? a = some o) {a : Addr} (h : s.heap.objs.size ≤ a) : ¬ X a := fun z => by
  obtain ⟨o, e⟩ := hx _ z
  exact Nat.lt_irrefl _ (Nat.lt_of_lt_of_le (Heap.lt_size e) h)
theorem PostE.newSeq {vs : List Value} {ds : List PyData} {k : Nat} {mk : List PyData → PyData} {cl : String} (hm : mk = .list ∧ cl = "list" ∨ mk = .tuple ∧ cl = "tuple") (q : SpOK c P s.heap X T) (hx : ∀ a, X a → ∃ o, s.heap.get? a = some o) (r : All2 (RdP s.heap X) vs ds) :
    PostE c P X T s (.p (mk ds)) T (.ref s.heap.objs.size) { s with heap := s.heap.push { cls := .type cl, data := .seq vs.toArray k } } := by
  have kp : Keep s.heap (s.heap.push { cls := .type cl, data := .seq vs.toArray k }) := fun _ _ e => Heap.get?_push_of_some _ e
  have r' := r.imp fun _ _ z => RdP.stable z fun b o e _ => kp b o e
  refine ⟨Out.all (tk := s.toks) kp, q.keeps kp, ?_⟩
  rcases hm with ⟨rfl, rfl⟩ | ⟨rfl, rfl⟩
  · exact RdP.list ⟨_, _, _, _, rfl, fresh_not hx (Nat.le_refl _), Heap.get?_push_size _ rfl, r'⟩
  · exact RdP.tuple (Heap.get?_push_size _ rfl) rfl rfl r'
theorem lookup_nodup {x : Str} {kd : NameKind} : ∀ l : List (Str × NameKind), (l.map (·.1)).Nodup → (x, kd) ∈ l → l.lookup x = some kd := fun l => by
  induction l with
  | nil => intro _ h; cases h
  | cons y l ih =>
    intro hn h
    obtain ⟨h1, h2⟩ := List.nodup_cons.mp hn
    rw [List.lookup_cons]
    rcases List.mem_cons.mp h with e | h
    · rw [← e, beq_self_eq_true]
    · rw [beq_eq_false_iff_ne.mpr fun e => h1 (List.mem_map.mpr ⟨_, h, e⟩)]
      exact ih h2 h
theorem EnvS.kind (e : EnvS sc env) {k : Nat} {x : Str} {kd : NameKind} (h : sc[k]? = some (x, kd)) : env.kindOf x = some kd := by
  unfold Env.kindOf
  rw [e.hsc]
  exact lookup_nodup _ e.nd (List.mem_of_getElem? h)
theorem EnvS.fk' (e : EnvS sc env) : env.scope.kind = .function := e.fk
theorem name_load {x : Str} {pos : Pos} {k : Nat} {kd : NameKind} {sl : Slot} {Q : Value → Shared → Prop} (p : Pre c P n sc A env s X Γ T) (hk : sc[k]? = some (x, kd)) (hg : gget Γ k = some sl) (hd : ((x == ("__debug__" : Str)) || (x == ("__classdict__" : Str))) = false)
    (h : ∀ v, Bound s.heap env x v kd → Rd c P s.heap X v sl.toD → Q v s) : wpAny c.M A (eval (.Name x pos) env) Q E s := by
  obtain ⟨v, b, r⟩ := p.er k x kd sl hk hg
  have kk := p.es.kind hk
  obtain ⟨h1, h2⟩ := Bool.or_eq_false_iff.mp hd
  refine wpAny_Name ?_ h1
  replace h := h v b r
  cases kd with
  | «local» => obtain ⟨m, hn, e⟩ := b; exact wpAny_loadName_local p.es.fk' kk hn e h
  | cell => obtain ⟨a, l, hv⟩ := b; exact wpAny_loadName_cell p.es.fk' kk l hv h
  | free => obtain ⟨a, l, hv⟩ := b; exact wpAny_loadName_free p.es.fk' kk l hv h h2
  | globalExplicit => exact b.elim
  | globalImplicit => exact b.elim
theorem Ev.name {x : Str} {pos : Pos} (k : Nat) {kd : NameKind} {sl : Slot} (hk : sc[k]? = some (x, kd)) (hg : gget Γ k = some sl) (hd : ((x == ("__debug__" : Str)) || (x == ("__classdict__" : Str))) = false) : Ev c n sc Γ T (.Name x pos) sl.toD T :=
  fun _ _ _ _ _ _ p => name_load p hk hg hd fun _ _ r => PostE.here p.pc.sp r
theorem glob_load {x : Str} {v : Value} {Q : Value → Shared → Prop} {pos : Pos} (p : Pre c P n sc A env s X Γ T) (hk : sc.lookup x = some .globalImplicit) (hd : (x == ("__debug__" : Str)) = false)
    (hv : c.mg x = some v ∨ c.mg x = none ∧ bootBuiltins x = some v ∧ x ≠ "__name__") (h : Q v s) : wpAny c.M A (eval (.Name x pos) env) Q E s := by
  refine wpAny_Name ?_ hd
  rw [loadName_read p.es.fk' (by unfold Env.kindOf; rw [p.es.hsc]; exact hk)]
  have g := p.pc.ok.g.keeps p.pc.st
  rcases hv with hv | ⟨hm, hb, hne⟩
  · exact PySem.Calls.loadGlobal_global (p.es.gl ▸ g) hv h
  · exact PySem.Calls.loadGlobal_builtin (p.es.gl ▸ g) hm (p.es.bl ▸ p.pc.ok.b.keeps p.pc.st) ((p.pc.ok.boot x hne).trans hb) h
theorem Ev.globInt {x : Str} {pos : Pos} {i : Int} {t : Tok} (hk : sc.lookup x = some .globalImplicit) (hd : (x == ("__debug__" : Str)) = false) (hv : c.mg x = some (.int i t)) : Ev c n sc Γ T (.Name x pos) (.p (.int i)) T :=
  fun _ _ _ _ _ _ p => glob_load p hk hd (.inl hv) (PostE.here p.pc.sp (RdP.int i t))
theorem Ev.int {i : Int} {k : Nat} {pos : Pos} : Ev c n sc Γ T (.Constant (.int i) k pos) (.p (.int i)) T := fun _ _ _ _ _ _ p => wpAny_Constant_int (PostE.tok p.pc.sp _ (RdP.int i _))
theorem Ev.str {x : Str} {k : Nat} {pos : Pos} : Ev c n sc Γ T (.Constant (.str x) k pos) (.p (.str x)) T := fun _ _ _ _ _ _ p => wpAny_Constant_str (PostE.tok p.pc.sp _ (RdP.str x _))
theorem Ev.neg {i : Int} {k : Nat} {p1 p2 : Pos} : Ev c n sc Γ T (.UnaryOp .USub (.Constant (.int i) k p1) p2) (.p (.int (-i))) T := fun _ _ _ _ _ _ p => wpAny_UnaryOp (wpAny_Constant_int (PyProof.Rows.neg_int (PostE.tok p.pc.sp _ (RdP.int _ _))))
end
end
noncomputable section
open PySem PySem.W PyProof.Rows PyProof.Rows.LSm
section
variable {c : Cx} {P : Sp} {n m : Nat} {T T' T'' : TS} {s s' s'' : Shared} {X : Addr → Prop} {sc : Scp} {A : Around} {env : Env} {Γ : Gam} {d : D} {v va vb : Value} {E : Value → Shared → Prop} {e l r : PySem.Expr} {a b : D} {i j k : Int} {pos : Pos} {x y : Str}
noncomputable def Bin (c : Cx) (n : Nat) (op : Operator) (a b d : D) : Prop :=
  ∀ P A s X T va vb E, PreC c P n A s X T → Rd c P s.heap X va a → Rd c P s.heap X vb b → wpAny c.M A (binaryOp op va vb) (PostE c P X T s d T) E s
theorem Ev.bin {op : Operator} (hl : Ev c n sc Γ T l a T') (hr : Ev c n sc Γ T' r b T'') (hb : Bin c n op a b d) : Ev c n sc Γ T (.BinOp l op r pos) d T'' :=
  fun _ _ _ _ _ _ p => wpAny_BinOp (hl.run p fun _ _ p1 o1 r1 => hr.run p1 fun _ _ p2 o2 r2 =>
    wpAny_mono (hb _ _ _ _ _ _ _ _ p2.pc (r1.stable (o2.stable p1.pc.sp)) r2) (fun _ _ q => q.trans (o1.trans o2)) fun _ _ e => e)
theorem Bin.ints {op : Operator} (h : ∀ A s Q E t u, Q (.int k s.toks) { s with toks := s.toks + 1 } → wpAny c.M A (binaryOp op (.int i t) (.int j u)) Q E s) : Bin c n op (.p (.int i)) (.p (.int j)) (.p (.int k)) :=
  fun _ _ _ _ _ _ _ _ p ra rb => by
    obtain ⟨t, rfl⟩ := RdP.inv ra
    obtain ⟨u, rfl⟩ := RdP.inv rb
    exact h _ _ _ _ _ _ (PostE.tok p.sp _ (RdP.int k _))
theorem Bin.add : Bin c n .Add (.p (.int i)) (.p (.int j)) (.p (.int (i + j))) := .ints fun _ _ _ _ _ _ h => PyProof.Rows.add_int h
theorem Bin.sub : Bin c n .Sub (.p (.int i)) (.p (.int j)) (.p (.int (i - j))) := .ints fun _ _ _ _ _ _ h => PyProof.Rows.sub_int h
theorem Bin.mul (q : i.natAbs < 2 ^ 64) : Bin c n .Mult (.p (.int i)) (.p (.int j)) (.p (.int (i * j))) := .ints fun _ _ _ _ _ _ h => PyProof.Rows.mul_int h (IntMulOk.of_left (intBits_le_64 (by omega) (by omega)))
theorem Bin.fdiv (q : j ≠ 0 ∧ j.natAbs < 1073741824) : Bin c n .FloorDiv (.p (.int i)) (.p (.int j)) (.p (.int (i.fdiv j))) := .ints fun _ _ _ _ _ _ h => floordiv_int q.1 h (.inl (PyProof.noPylong_small q.2))
theorem Bin.mod (q : j ≠ 0) : Bin c n .Mod (.p (.int i)) (.p (.int j)) (.p (.int (i.fmod j))) := .ints fun _ _ _ _ _ _ h => mod_int' q h
theorem Bin.pow (q : 0 ≤ j ∧ j ≤ 1000000 ∧ i.natAbs < 2 ^ 64) : Bin c n .Pow (.p (.int i)) (.p (.int j)) (.p (.int (i ^ j.toNat))) := .ints fun _ _ _ _ _ _ h => pow_int_small q.1 q.2.1 q.2.2 h
theorem Bin.shl (q : 0 ≤ j ∧ j ≤ 1000000 ∧ i.natAbs < 2 ^ 64) : Bin c n .LShift (.p (.int i)) (.p (.int j)) (.p (.int (i * 2 ^ j.toNat))) := .ints fun _ _ _ _ _ _ h => lshift_int_small q.1 q.2.1 q.2.2 h
theorem Bin.and : Bin c n .BitAnd (.p (.int i)) (.p (.int j)) (.p (.int (Builtin.bitAnd i j))) := .ints fun _ _ _ _ _ _ h => and_int h
theorem Bin.mulS (q : x.length ≤ 1000 ∧ 0 ≤ k ∧ k ≤ 1000) : Bin c n .Mult (.p (.str x)) (.p (.int k)) (.p (.str (Txt.mul x k))) := fun _ _ _ _ _ _ _ _ p ra rb => by
  obtain ⟨t, rfl⟩ := RdP.inv ra
  obtain ⟨u, rfl⟩ := RdP.inv rb
  exact SB.mul (mulOk_of 1000 1000 q.1 (by (first | (simp +arith only; done) | lia | omega)) (by (first | (simp +arith only; done) | lia | omega)) (by decide) (by decide)) fun t' tk => PostE.tok p.sp tk (RdP.str _ t')
theorem Bin.addS (q : x.length + y.length ≤ 1000000) : Bin c n .Add (.p (.str x)) (.p (.str y)) (.p (.str (x ++ y))) := fun _ _ _ _ _ _ _ _ p ra rb => by
  obtain ⟨t, rfl⟩ := RdP.inv ra
  obtain ⟨u, rfl⟩ := RdP.inv rb
  exact SBL.add (hsz := by rw [sizeLine_eq]; (first | (simp +arith only; done) | lia | omega)) (fun t' tk _ => PostE.tok p.sp tk (RdP.str _ t'))
noncomputable def Fresh (c : Cx) (P : Sp) (X : Addr → Prop) (T : TS) (s : Shared) (l : List PyData) (T' : TS) (v : Value) (s' : Shared) : Prop :=
  Out P T T' s s' ∧ SpOK c P s'.heap X T' ∧ ∃ a vs n, v = .ref a ∧ s.heap.get? a = none ∧ s'.heap.get? a = some ⟨.type "list", none, .seq vs n, #[]⟩ ∧ All2 (RdP s'.heap X) vs.toList l
noncomputable def EvO (c : Cx) (n : Nat) (sc : Scp) (Γ : Gam) (T : TS) (e : PySem.Expr) (l : List PyData) (T' : TS) : Prop :=
  ∀ P A env s X E, Pre c P n sc A env s X Γ T → wpAny c.M A (eval e env) (Fresh c P X T s l T') E s
theorem none_of_size {h : Heap} {a : Addr} (k : h.objs.size ≤ a) : h.get? a = none := by
  cases e : h.get? a with
  | none => rfl
  | some o => exact absurd (Heap.lt_size e) (Nat.not_lt.mpr k)
theorem some_of_out (o : Out P T T' s s') (q : SpOK c P s'.heap X T') {b : Addr} (h : s'.heap.get? b = none) : s.heap.get? b = none := by
  cases e : s.heap.get? b with
  | none => rfl
  | some ob =>
    cases ht : T'.tape with
    | none => exact nomatch h.symm.trans (o.keep b ob e fun _ => o.nn.mpr ht)
    | some bs =>
      by_cases hbt : b = P.τ
      · obtain ⟨_, _, d, vs, sl, g, _⟩ := q.tape bs ht; subst hbt; exact nomatch h.symm.trans g
      · exact nomatch h.symm.trans (o.keep b ob e fun z => absurd z hbt)
theorem Fresh.new {vs : List Value} {ds : List PyData} {k : Nat} (q : SpOK c P s.heap X T) (r : All2 (RdP s.heap X) vs ds) :
    Fresh c P X T s ds T (.ref s.heap.objs.size) { s with heap := s.heap.push { cls := .type "list", data := .seq vs.toArray k } } := by
  have kp : Keep s.heap (s.heap.push { cls := .type "list", data := .seq vs.toArray k }) := fun _ _ e => Heap.get?_push_of_some _ e
  exact ⟨Out.all (tk := s.toks) kp, q.keeps kp, _, _, _, rfl, none_of_size (Nat.le_refl _), Heap.get?_push_size _ rfl, r.imp fun _ _ z => z.stable fun b o e _ => kp b o e⟩
theorem Fresh.trans {l : List PyData} (o : Out P T T' s s') (q : SpOK c P s'.heap X T') (p : Fresh c P X T' s' l T'' v s'') : Fresh c P X T s l T'' v s'' := by
  obtain ⟨o2, q2, a, vs, m, e, h1, r⟩ := p
  exact ⟨o.trans o2, q2, a, vs, m, e, some_of_out o q h1, r⟩
theorem Fresh.post {l : List PyData} (p : Fresh c P X T s l T' v s') (hx : ∀ a, X a → ∃ o, s.heap.get? a = some o) : PostE c P X T s (.p (.list l)) T' v s' := by
  obtain ⟨o, q, a, vs, m, e, h1, h2, r⟩ := p
  exact ⟨o, q, RdP.list ⟨a, vs, m, _, e, fun z => (hx a z).elim fun _ f => (nomatch h1.symm.trans f), h2, r⟩⟩
theorem EvO.ev {ds : List PyData} (h : EvO c n sc Γ T e ds T') : Ev c n sc Γ T e (.p (.list ds)) T' := fun _ _ _ _ _ _ p => wpAny_mono (h _ _ _ _ _ _ p) (fun _ _ q => q.post p.pc.xlt) fun _ _ e => e
theorem EvO.bin {op : Operator} {ds : List PyData} (hl : Ev c n sc Γ T l a T') (hr : Ev c n sc Γ T' r b T'') (hb : ∀ P A s X T va vb E, PreC c P n A s X T → Rd c P s.heap X va a → Rd c P s.heap X vb b → wpAny c.M A (binaryOp op va vb) (Fresh c P X T s ds T) E s) : EvO c n sc Γ T (.BinOp l op r pos) ds T'' :=
  fun _ _ _ _ _ _ p => wpAny_BinOp (hl.run p fun _ _ p1 o1 r1 => hr.run p1 fun _ _ p2 o2 r2 =>
    wpAny_mono (hb _ _ _ _ _ _ _ _ p2.pc (r1.stable (o2.stable p1.pc.sp)) r2) (fun _ _ q => q.trans (o1.trans o2) p2.pc.sp) fun _ _ e => e)
theorem All2.flat {β : Type} {R : Value → β → Prop} {vs ds} (r : All2 R vs ds) (k : Nat) : All2 R (List.replicate k vs).flatten (List.replicate k ds).flatten := by
  induction k with
  | zero => exact .nil
  | succ k ih => simpa only [List.replicate_succ, List.flatten_cons] using r.append ih
theorem mulL {ds : List PyData} (q : ds.length ≤ 1000 ∧ 0 ≤ k ∧ k ≤ 1000) (P A s X T va vb E) (p : PreC c P n A s X T) (ra : Rd c P s.heap X va (.p (.list ds))) (rb : Rd c P s.heap X vb (.p (.int k))) :
    wpAny c.M A (binaryOp .Mult va vb) (Fresh c P X T s (List.replicate k.toNat ds).flatten T) E s := by
  obtain ⟨a, vs, m, sl, rfl, hn, g, r⟩ := RdP.inv ra
  obtain ⟨u, rfl⟩ := RdP.inv rb
  have sz : vs.size = ds.length := by simpa using r.length
  have hm : vs.size * k.toNat ≤ 1000 * 1000 := Nat.mul_le_mul (by (first | (simp +arith only; done) | lia | omega)) (by (first | (simp +arith only; done) | lia | omega))
  refine wpAny_binaryOp_repeat_ref (T := "list") (U := "int") (by decide) ⟨_, g, rfl⟩ (fun s' => typeIs_int s' k u) noFill_list_mul F.fills_int_mul F.slot_int_rmul repeat_list F.slot_int_index.lookup
    (call_meets F.slot_int_rmul (typeIs_int s k u) F.entry_int_rmul (F.args_int_rmul_2 _ _) (lm_int_rmul_list_any k u a vs m none sl)
      ⟨g, rfl, ⟨_, g, rfl⟩, call_meets F.slot_list_mul ⟨_, g, rfl⟩ F.entry_list_mul (F.args_list_mul_2 _ _)
        (lm_list_mul_any a vs m none sl k u (by simp [Builtin.List.listFitsIndex]; (first | (simp +arith only; done) | lia | omega)) (by (first | (simp +arith only; done) | lia | omega)) (by simp [Builtin.List.listTooLong, sizeLine]; (first | (simp +arith only; done) | lia | omega)))
        ⟨g, ?_⟩⟩)
  rw [listMul_foldl_if]
  exact Fresh.new p.sp (r.flat _)
theorem addL {ds es : List PyData} (q : ds.length + es.length ≤ 1000000) (P A s X T va vb E) (p : PreC c P n A s X T) (ra : Rd c P s.heap X va (.p (.list ds))) (rb : Rd c P s.heap X vb (.p (.list es))) :
    wpAny c.M A (binaryOp .Add va vb) (Fresh c P X T s (ds ++ es) T) E s := by
  obtain ⟨a, vs, m, sl, rfl, hn, g, r⟩ := RdP.inv ra
  obtain ⟨a', vs', m', sl', rfl, hn', g', r'⟩ := RdP.inv rb
  have len := r.length
  have len' := r'.length
  simp only [Array.length_toList] at len len'
  refine concat_meets ⟨_, g, rfl⟩ ⟨_, g', rfl⟩ noFill_list_add seq_list_add PySem.F.slot_list_add PySem.F.entry_list_add (PySem.F.args_list_add_2 _ _) (list_addW a a' vs vs' m m' none none sl sl' (by rw [sizeLine_eq]; (first | (simp +arith only; done) | lia | omega))) ⟨g, g', ?_⟩
  have e := Fresh.new (k := 0) p.sp (r.append r')
  rwa [show (vs.toList ++ vs'.toList).toArray = vs ++ vs' by simp] at e
noncomputable def Cmp (c : Cx) (n : Nat) (op : CmpOp) (a b : D) (r : Bool) : Prop :=
  ∀ P A s X T va vb Q E, PreC c P n A s X T → Rd c P s.heap X va a → Rd c P s.heap X vb b → Q (.bool r) s → wpAny c.M A (compareOp op va vb) Q E s
theorem Cmp.ints {op : CmpOp} {r : Bool} (h : ∀ A s Q E t u, Q (.bool r) s → wpAny c.M A (compareOp op (.int i t) (.int j u)) Q E s) : Cmp c n op (.p (.int i)) (.p (.int j)) r := fun _ _ _ _ _ _ _ _ _ _ ra rb q => by
  obtain ⟨t, rfl⟩ := RdP.inv ra
  obtain ⟨u, rfl⟩ := RdP.inv rb
  exact h _ _ _ _ _ _ q
theorem Cmp.lt : Cmp c n .Lt (.p (.int i)) (.p (.int j)) (decide (i < j)) := .ints fun _ _ _ _ _ _ h => PyProof.Rows.lt_int h
theorem Cmp.le : Cmp c n .LtE (.p (.int i)) (.p (.int j)) (decide (i ≤ j)) := .ints fun _ _ _ _ _ _ h => PyProof.Rows.le_int h
theorem Cmp.gt : Cmp c n .Gt (.p (.int i)) (.p (.int j)) (decide (j < i)) := .ints fun _ _ _ _ _ _ h => PyProof.Rows.gt_int h
theorem Cmp.ge : Cmp c n .GtE (.p (.int i)) (.p (.int j)) (decide (j ≤ i)) := .ints fun _ _ _ _ _ _ h => PyProof.Rows.ge_int h
theorem Cmp.eqI : Cmp c n .Eq (.p (.int i)) (.p (.int j)) (i == j) := .ints fun _ _ _ _ _ _ h => PyProof.Rows.eq_int h
theorem Cmp.neI : Cmp c n .NotEq (.p (.int i)) (.p (.int j)) (i != j) := .ints fun _ _ _ _ _ _ h => PyProof.Rows.ne_int h
theorem Cmp.eqS : Cmp c n .Eq (.p (.str x)) (.p (.str y)) (x == y) := fun _ _ _ _ _ _ _ _ _ _ ra rb q => by
  obtain ⟨t, rfl⟩ := RdP.inv ra
  obtain ⟨u, rfl⟩ := RdP.inv rb
  exact PyProof.Rows.eq_str q
theorem AOK.line (h : AOK n A) : A.units + 64 < cLine := Nat.lt_of_le_of_lt (Nat.add_le_add_right (Nat.le_trans (Nat.le_add_right _ _) h.2.2) 64) (by decide)
theorem Cmp.eqP {p q : PyData} (h : (SeqAt.shaped p && SeqAt.shaped q) = true) : Cmp c n .Eq (.p p) (.p q) (PyData.eqv p q) := fun _ _ _ _ _ _ _ _ _ pc ra rb hq => by
  obtain ⟨as, ra, _⟩ := ra
  obtain ⟨bs, rb, _⟩ := rb
  have h' := Bool.and_eq_true_iff.mp h
  exact eq_dataH ra rb h'.1 h'.2 pc.a.line hq
theorem Cmp.neP {p q : PyData} (h : (SeqAt.shaped p && SeqAt.shaped q) = true) : Cmp c n .NotEq (.p p) (.p q) (!PyData.eqv p q) := fun _ _ _ _ _ _ _ _ _ pc ra rb hq => by
  obtain ⟨as, ra, _⟩ := ra
  obtain ⟨bs, rb, _⟩ := rb
  have h' := Bool.and_eq_true_iff.mp h
  exact ne_dataH ra rb h'.1 h'.2 pc.a.line hq
theorem inRoom {x y : Nat} (h : AOK n A) (hy : y ≤ 64) : A.units + 1 + min x y < cLine := by have := h.2.2; rw [show cLine = 9900 from rfl]; (first | (simp +arith only; done) | lia | omega)
theorem Cmp.isIn {p : PyData} {q : List PyData} (h : (PyData.canLayAll0 q && SeqAt.shaped p) = true) : Cmp c n .In (.p p) (.p (.list q)) (q.any fun y => PyData.eqv y p) := fun _ A _ _ _ _ _ _ _ pc ra rb hq => by
  obtain ⟨as, ra, _⟩ := ra
  obtain ⟨bs, rb, _⟩ := rb
  have h' := Bool.and_eq_true_iff.mp h
  have h2 := Bool.and_eq_true_iff.mp (show (p.canLay0 && decide (p.depth ≤ 64)) = true from h'.2)
  exact SeqAt.in_list_reads rb ra h'.1 h2.1 (inRoom pc.a (of_decide_eq_true h2.2)) hq
theorem Cmp.notIn {p : PyData} {q : List PyData} (h : (PyData.canLayAll0 q && SeqAt.shaped p) = true) : Cmp c n .NotIn (.p p) (.p (.list q)) (!q.any fun y => PyData.eqv y p) := fun _ A _ _ _ _ _ _ _ pc ra rb hq => by
  obtain ⟨as, ra, _⟩ := ra
  obtain ⟨bs, rb, _⟩ := rb
  have h' := Bool.and_eq_true_iff.mp h
  have h2 := Bool.and_eq_true_iff.mp (show (p.canLay0 && decide (p.depth ≤ 64)) = true from h'.2)
  exact SeqAt.notIn_list_reads rb ra h'.1 h2.1 (inRoom pc.a (of_decide_eq_true h2.2)) hq
theorem Ev.cmp {op : CmpOp} {t : Bool} (hl : Ev c n sc Γ T l a T') (hr : Ev c n sc Γ T' r b T'') (hb : Cmp c n op a b t) (hm : behindInMarks op r = false) : Ev c n sc Γ T (.Compare l [op] [r] pos) (.p (.bool t)) T'' :=
  fun _ _ _ _ _ _ p => wpAny_Compare1 (hm := hm) (hl.run p fun _ _ p1 o1 r1 => hr.run p1 fun _ _ p2 o2 r2 =>
    hb _ _ _ _ _ _ _ _ _ p2.pc (r1.stable (o2.stable p1.pc.sp)) r2 ⟨o1.trans o2, p2.pc.sp, RdP.bool t⟩)
theorem Tr.cmp {op : CmpOp} {t : Bool} (hl : Ev c n sc Γ T l a T') (hr : Ev c n sc Γ T' r b T'') (hb : Cmp c n op a b t) (hm : behindInMarks op r = false) : Tr c n sc Γ T (.Compare l [op] [r] pos) t T'' :=
  fun _ _ _ _ _ _ p => wpAny_isTrue_Compare1 (hm := hm) (hl.run p fun _ _ p1 o1 r1 => hr.run p1 fun _ _ p2 o2 r2 =>
    hb _ _ _ _ _ _ _ _ _ p2.pc (r1.stable (o2.stable p1.pc.sp)) r2 (wpAny_truthy_bool ⟨o1.trans o2, p2.pc.sp, rfl⟩))
theorem Tr.val (h : Ev c n sc Γ T e (.p (.int i)) T') (he : ∀ (env : Env) (whole : Sem Value), isTrue e env whole = (do let v ← whole; standAt e.pos; holding [v] (truthy v))) : Tr c n sc Γ T e (i != 0) T' :=
  fun _ _ _ _ _ _ p => isTrue_plain (h.run p fun _ _ p1 o1 r1 => by
    obtain ⟨t, rfl⟩ := RdP.inv r1
    exact PyProof.Rows.truthy_int ⟨o1, p1.pc.sp, rfl⟩) (he _ _)
theorem Tr.bool {t : Bool} (h : Ev c n sc Γ T e (.p (.bool t)) T') (he : ∀ (env : Env) (whole : Sem Value), isTrue e env whole = (do let v ← whole; standAt e.pos; holding [v] (truthy v))) : Tr c n sc Γ T e t T' :=
  fun _ _ _ _ _ _ p => isTrue_plain (h.run p fun _ _ p1 o1 r1 => by
    cases (RdP.inv r1 : _ = _)
    exact wpAny_truthy_bool ⟨o1, p1.pc.sp, rfl⟩) (he _ _)
theorem Tr.not {t : Bool} (h : Tr c n sc Γ T e t T') : Tr c n sc Γ T (.UnaryOp .Not e pos) (!t) T' :=
  fun _ _ _ _ _ _ p => wpAny_isTrue_Not (h.run p fun _ p1 o1 => ⟨o1, p1.pc.sp, rfl⟩)
noncomputable def TrAll (c : Cx) (n : Nat) (sc : Scp) (Γ : Gam) (T : TS) (op : BoolOp) (es : List PySem.Expr) (b : Bool) (T' : TS) : Prop :=
  ∀ P A env s X E, Pre c P n sc A env s X Γ T → wpAny c.M A (allTrue op es env) (fun v s' => Out P T T' s s' ∧ SpOK c P s'.heap X T' ∧ v = b) E s
theorem TrAll.andNil : TrAll c n sc Γ T .And [] true T := fun _ _ _ _ _ _ p => wpAny_allTrue_And_nil ⟨Out.refl .., p.pc.sp, rfl⟩
theorem TrAll.orNil : TrAll c n sc Γ T .Or [] false T := fun _ _ _ _ _ _ p => wpAny_allTrue_Or_nil ⟨Out.refl .., p.pc.sp, rfl⟩
theorem TrAll.and {es : List PySem.Expr} {t u : Bool} (h : Tr c n sc Γ T e t T') (hf : t = false → T'' = T') (hs : t = true → TrAll c n sc Γ T' .And es u T'') : TrAll c n sc Γ T .And (e :: es) (t && u) T'' :=
  fun _ _ _ _ _ _ p => wpAny_allTrue_And_cons (h.run p fun _ p1 o1 => by
    cases t with
    | true => exact wpAny_mono (hs rfl _ _ _ _ _ _ p1) (fun _ _ q => ⟨o1.trans q.1, q.2⟩) fun _ _ e => e
    | false => cases hf rfl; exact ⟨o1, p1.pc.sp, rfl⟩)
theorem TrAll.or {es : List PySem.Expr} {t u : Bool} (h : Tr c n sc Γ T e t T') (hf : t = true → T'' = T') (hs : t = false → TrAll c n sc Γ T' .Or es u T'') : TrAll c n sc Γ T .Or (e :: es) (t || u) T'' :=
  fun _ _ _ _ _ _ p => wpAny_allTrue_Or_cons (h.run p fun _ p1 o1 => by
    cases t with
    | false => exact wpAny_mono (hs rfl _ _ _ _ _ _ p1) (fun _ _ q => ⟨o1.trans q.1, q.2⟩) fun _ _ e => e
    | true => cases hf rfl; exact ⟨o1, p1.pc.sp, rfl⟩)
theorem Tr.boolop {op : BoolOp} {es : List PySem.Expr} {t : Bool} (h : TrAll c n sc Γ T op es t T') : Tr c n sc Γ T (.BoolOp op es pos) t T' := fun _ _ _ _ _ _ p => wpAny_isTrue_BoolOp (h _ _ _ _ _ _ p)
theorem Ev.ifexp {u : PySem.Expr} {t : Bool} (ht : Tr c n sc Γ T u t T') (h1 : t = true → Ev c n sc Γ T' l a T'') (h2 : t = false → Ev c n sc Γ T' r a T'') : Ev c n sc Γ T (.IfExp u l r pos) a T'' :=
  fun _ _ _ _ _ _ p => wpAny_IfExp (ht.run p fun _ p1 o1 => by
    cases t with
    | true => exact wpAny_mono (h1 rfl _ _ _ _ _ _ p1) (fun _ _ q => q.trans o1) fun _ _ e => e
    | false => exact wpAny_mono (h2 rfl _ _ _ _ _ _ p1) (fun _ _ q => q.trans o1) fun _ _ e => e)
noncomputable def EvL (c : Cx) (n : Nat) (sc : Scp) (Γ : Gam) (T : TS) (es : List PySem.Expr) (ds : List D) (T' : TS) : Prop :=
  ∀ P A env s X E pos, Pre c P n sc A env s X Γ T →
    wpAny c.M A (spliced (backTo pos (starEach es env))) (fun vs s' => Out P T T' s s' ∧ SpOK c P s'.heap X T' ∧ All2 (Rd c P s'.heap X) vs ds) E s
theorem EvL.nil : EvL c n sc Γ T [] [] T := fun _ _ _ _ _ _ _ p => wpAny_pure ⟨Out.refl .., p.pc.sp, .nil⟩
theorem EvL.cons {es : List PySem.Expr} {ds : List D} (h : Ev c n sc Γ T e d T') (hs : EvL c n sc Γ T' es ds T'') (hne : ∀ (env : Env), starEach (e :: es) env = (false, eval e env) :: starEach es env) : EvL c n sc Γ T (e :: es) (d :: ds) T'' := by
  intro P A env s X E pos p
  rw [hne]
  show wpAny c.M A (spliced ((false, eval e env) :: backTo pos (starEach es env))) _ _ _
  unfold spliced
  refine wpAny_bind (h.run p fun v s₁ p1 o1 r1 => ?_)
  refine wpAny_bind (wpAny_pure (wpAny_bind (wpAny_holding (wpAny_mono (hs _ _ _ _ _ _ pos p1) (fun vs s₂ q2 => ?_) fun _ _ e => e))))
  exact wpAny_pure ⟨o1.trans q2.1, q2.2.1, .cons (r1.stable (q2.1.stable p1.pc.sp)) q2.2.2⟩
theorem all2_map {h : Heap} {vs : List Value} {ds : List PyData} (a : All2 (Rd c P h X) vs (ds.map .p)) : All2 (RdP h X) vs ds := by
  induction ds generalizing vs with
  | nil => cases a; exact .nil
  | cons d ds ih => cases a with | cons x y => exact .cons x (ih y)
theorem EvO.list {es : List PySem.Expr} {ds : List PyData} (h : EvL c n sc Γ T es (ds.map .p) T') (hl : ds.length ≤ 1000) : EvO c n sc Γ T (.List es pos) ds T' :=
  fun _ _ _ _ _ _ p => wpAny_List (wpAny_mono (h _ _ _ _ _ _ pos p) (fun vs _ q => by
    have r := all2_map q.2.2
    exact ⟨Nat.le_trans (r.length ▸ hl) (by decide), Fresh.trans q.1 q.2.1 (Fresh.new q.2.1 r)⟩) fun _ _ e => e)
theorem Ev.tuple {es : List PySem.Expr} {k : Nat} {ds : List PyData} (h : EvL c n sc Γ T es (ds.map .p) T') (hl : ds.length ≤ 1000) : Ev c n sc Γ T (.Tuple es k pos) (.p (.tuple ds)) T' :=
  fun _ _ _ _ _ _ p => wpAny_Tuple (wpAny_mono (h _ _ _ _ _ _ pos p) (fun vs _ q => by
    have r := all2_map q.2.2
    exact ⟨Nat.le_trans (r.length ▸ hl) (by decide), PostE.trans q.1 (PostE.newSeq (.inr ⟨rfl, rfl⟩) q.2.1 (q.1.xlt q.2.1 p.pc.xlt) r)⟩) fun _ _ e => e)
end
end
noncomputable section
open PySem PySem.W PyProof.Rows PyProof.Rows.LSm
section
variable {c : Cx} {P : Sp} {n m : Nat} {T T' T'' : TS} {s s' s'' : Shared} {X : Addr → Prop} {sc : Scp} {A : Around} {env : Env} {Γ : Gam} {d : D} {v va vb fv : Value} {E : Value → Shared → Prop} {e l r : PySem.Expr} {a b : D} {i j k : Int} {pos np : Pos} {x y : Str} {ds : List D} {es : List PySem.Expr}
noncomputable def Call (c : Cx) (n : Nat) (fv : Value) (ds : List D) (T : TS) (d : D) (T' : TS) : Prop :=
  ∀ P A s X vs E, PreC c P n A s X T → All2 (Rd c P s.heap X) vs ds → wpAny c.M A (call fv vs) (PostE c P X T s d T') E s
noncomputable def Keep3 (c : Cx) (fv : Value) : Prop := ∀ h, St c h → ∃ k, (k = Keeper.frame ∨ k = Keeper.machine ∨ k = Keeper.boundFrame) ∧ Looks c.M h (keeperOf fv) k
theorem Keep3.builtin {id : String} : Keep3 c (.builtin id) := fun _ _ => ⟨.machine, .inr (.inl rfl), Looks.of_pure rfl⟩
theorem Keep3.type {T : String} : Keep3 c (.type T) := fun _ _ => ⟨.machine, .inr (.inl rfl), Looks.of_pure rfl⟩
theorem Keep3.K (o : c.OK) (h : keepIn c.K fv = true) : Keep3 c fv := fun _ x => by
  obtain ⟨k, a, b⟩ := looks_keep (M := c.M) h (x.k o)
  exact ⟨k, a.imp_right .inl, b⟩
theorem Keep3.fn {a : Addr} {ob : Obj} {fd : FuncData} (g : c.h₀.get? a = some ob) (hd : ob.data = .func fd) : Keep3 c (.ref a) := fun _ x => by
  obtain ⟨cls, dict, data, slots⟩ := ob
  cases hd
  exact ⟨.frame, .inl rfl, (Looks.ld (part := none) (x _ _ g)).andThen .now⟩
theorem evalArgs_all {M : Model} {f : Value} {args : List (Bool × Sem Value)} {Q : Args → Shared → Prop} (hp : args.any (·.1) = false) (h : wpAny M A (spliced args) (fun vs s' => Q ⟨vs, []⟩ s') E s) : wpAny M A (evalArgs f true args []) Q E s := by
  cases args with
  | nil =>
    unfold evalArgs
    show wpAny M A (spliced [] >>= _) Q E s
    exact wpAny_bind (wpAny_mono h (fun vs s' h' => wpAny_holding (wpAny_bind (wpAny_pure (wpAny_bind (wpAny_pure (wpAny_pure h')))))) fun _ _ x => x)
  | cons a r =>
    obtain ⟨b, t⟩ := a
    cases b with
    | true => cases hp
    | false => exact Calls.evalArgs_plain h
theorem callWith_run {first : List Value} {Q : Value → Shared → Prop} (p : Pre c P n sc A env s X Γ T) (hk : Keep3 c fv) (hp : ∀ (env : Env) (pos : Pos), (backTo pos (starEach es env)).any (·.1) = false) (hg : EvL c n sc Γ T es ds T')
    (k : ∀ s₁ vs, Pre c P n sc A env s₁ X Γ T' → Out P T T' s s₁ → All2 (Rd c P s₁.heap X) vs ds → wpAny c.M A (call fv (first ++ vs)) Q E s₁) : wpAny c.M A (callWith pos fv first (backTo pos (starEach es env)) []) Q E s :=
  callWith_of (P := St c) (by rw [hp]; rfl) hk (evalArgs_all (hp _ _) (wpAny_mono (hg _ _ _ _ _ E pos p) (fun _ _ q => ⟨(p.next q.1 q.2.1).pc.st, k _ _ (p.next q.1 q.2.1) q.1 q.2.2⟩) fun _ _ e => e))
theorem callWith_ok {first : List Value} {pre : List D} (p : Pre c P n sc A env s X Γ T) (hk : Keep3 c fv) (hp : ∀ (env : Env) (pos : Pos), (backTo pos (starEach es env)).any (·.1) = false) (hg : EvL c n sc Γ T es ds T') (hF : Call c n fv (pre ++ ds) T' d T'')
    (hpre : All2 (Rd c P s.heap X) first pre) : wpAny c.M A (callWith pos fv first (backTo pos (starEach es env)) []) (PostE c P X T s d T'') E s :=
  callWith_run p hk hp hg fun _ _ p1 o r => wpAny_mono (hF _ _ _ _ _ _ p1.pc ((hpre.imp fun _ _ z => z.stable (o.stable p.pc.sp)).append r)) (fun _ _ q2 => q2.trans o) fun _ _ e => e
structure GName (c : Cx) (sc : Scp) (x : Str) (fv : Value) : Prop where
  k : sc.lookup x = some .globalImplicit
  d : (x == ("__debug__" : Str)) = false
  v : c.mg x = some fv ∨ c.mg x = none ∧ bootBuiltins x = some fv ∧ x ≠ "__name__"
theorem Ev.call (hx : GName c sc x fv) (hk : Keep3 c fv) (hp : ∀ (env : Env) (pos : Pos), (backTo pos (starEach es env)).any (·.1) = false) (hg : EvL c n sc Γ T es ds T') (hF : Call c n fv ds T' d T'') : Ev c n sc Γ T (.Call (.Name x np) es [] pos) d T'' :=
  fun _ _ _ _ _ _ p => wpAny_Call_NameR (glob_load p hx.k hx.d hx.v (callWith_ok (pre := []) p hk hp hg hF .nil))
theorem All2.nil_inv {β : Type} {R : Value → β → Prop} {vs} (r : All2 R vs []) : vs = [] := by cases r; rfl
theorem All2.cons_inv {β : Type} {R : Value → β → Prop} {vs d ds} (r : All2 R vs (d :: ds)) : ∃ v vs', vs = v :: vs' ∧ R v d ∧ All2 R vs' ds := by cases r with | cons a b => exact ⟨_, _, rfl, a, b⟩
theorem Call.one (h : ∀ P A s X v E, PreC c P n A s X T → Rd c P s.heap X v a → wpAny c.M A (PySem.call fv [v]) (PostE c P X T s d T') E s) : Call c n fv [a] T d T' := fun _ _ _ _ _ _ p r => by
  obtain ⟨v, vs, rfl, ra, r⟩ := r.cons_inv
  cases r
  exact h _ _ _ _ _ _ p ra
theorem Call.two (h : ∀ P A s X v u E, PreC c P n A s X T → Rd c P s.heap X v a → Rd c P s.heap X u b → wpAny c.M A (PySem.call fv [v, u]) (PostE c P X T s d T') E s) : Call c n fv [a, b] T d T' := fun _ _ _ _ _ _ p r => by
  obtain ⟨v, vs, rfl, ra, r⟩ := r.cons_inv
  obtain ⟨u, vs, rfl, rb, r⟩ := r.cons_inv
  cases r
  exact h _ _ _ _ _ _ _ p ra rb
theorem post_keeps {h' : Heap} {tk : Nat} (p : PreC c P n A s X T) (k : Keep s.heap h') (r : Rd c P h' X v d) : PostE c P X T s d T v { s with heap := h', toks := tk } := ⟨Out.all k, p.sp.keeps k, r⟩
theorem Call.lenL {l : List PyData} (q : l.length ≤ 1000000) : Call c n (.builtin "len") [.p (.list l)] T (.p (.int l.length)) T := .one fun _ _ _ _ _ _ p ra => by
  obtain ⟨a, vs, m, sl, rfl, hn, g, r⟩ := RdP.inv ra
  have e := r.length
  simp only [Array.length_toList] at e
  rw [← e] at q ⊢
  exact PyProof.Rows.len_list ⟨_, g, rfl, _, rfl⟩ (by (first | (simp +arith only; done) | lia | omega)) (PostE.tok p.sp _ (RdP.int _ _))
theorem Call.lenS (q : x.length ≤ 1000000) : Call c n (.builtin "len") [.p (.str x)] T (.p (.int x.length)) T := .one fun _ _ _ _ _ _ p ra => by
  obtain ⟨t, rfl⟩ := RdP.inv ra
  exact PyProof.Rows.len_str (by (first | (simp +arith only; done) | lia | omega)) (PostE.tok p.sp _ (RdP.int _ _))
theorem ints_are {h : Heap} {ns : List Int} : ∀ {vs : List Value}, All2 (RdP h X) vs (ns.map .int) → IntsAre vs ns := by
  induction ns with
  | nil => intro vs r; cases r; exact .nil
  | cons i ns ih =>
    intro vs r
    cases r with | cons a b =>
    obtain ⟨t, rfl⟩ := RdP.inv a
    exact .cons i t (ih b)
theorem are_ints {h : Heap} {vs : List Value} {ns : List Int} (r : IntsAre vs ns) : All2 (RdP h X) vs (ns.map .int) := by
  induction r with
  | nil => exact .nil
  | cons i t _ ih => exact .cons (RdP.int i t) ih
theorem ints_list {ns : List Int} (ra : RdP s.heap X v (.list (ns.map .int))) : ∃ a xs, v = .ref a ∧ s.heap.IsList a (intItems xs) ∧ ns = xs.toList.map (·.1) := by
  obtain ⟨a, vs, m, sl, rfl, hn, g, r⟩ := RdP.inv ra
  have hi := ints_are r
  obtain ⟨xs, hx⟩ := hi.allInts.items
  refine ⟨a, xs, rfl, hx ▸ ⟨_, g, rfl, m, by simp⟩, ?_⟩
  rw [← nums_intItems, ← hx]
  exact (show numsOf vs.toList.toArray.toList = ns from hi.numsOf).symm
theorem Call.sum {ns : List Int} : Call c n (.builtin "sum") [.p (.list (ns.map .int))] T (.p (.int ns.sum)) T := .one fun _ _ _ _ _ _ p ra => by
  obtain ⟨a, xs, rfl, hl, e⟩ := ints_list ra
  refine sum_intListG p.a.1 hl fun h' tk t' hk => post_keeps p hk ?_
  rw [preSum_eq, List.take_of_length_le (by simp), ← e]
  exact RdP.int _ _
theorem Call.max2 : Call c n (.builtin "max") [.p (.int i), .p (.int j)] T (.p (.int (if j > i then j else i))) T := .two fun _ _ _ _ _ _ _ p ra rb => by
  obtain ⟨t, rfl⟩ := RdP.inv ra
  obtain ⟨u, rfl⟩ := RdP.inv rb
  refine max_two_ints p.a.1 fun h' tk hk => post_keeps p hk ?_
  split <;> exact RdP.int _ _
theorem Call.maxL {ns : List Int} (hk : k ∈ ns) (hm : ∀ x ∈ ns, x ≤ k) : Call c n (.builtin "max") [.p (.list (ns.map .int))] T (.p (.int k)) T := .one fun _ _ _ _ _ _ p ra => by
  obtain ⟨a, xs, rfl, hl, rfl⟩ := ints_list ra
  have hsz : 0 < xs.size := by simpa using List.length_pos_of_mem hk
  refine max_intList p.a.1 hl hsz fun v h' tk hv hkp => post_keeps p hkp ?_
  obtain ⟨t, rfl⟩ := intItems_at hv
  obtain ⟨q1, q2⟩ := argBest_gt (numAt xs) (xs.size - 1)
  obtain ⟨i, hi, rfl⟩ := mem_getD hk
  rw [List.length_map, Array.length_toList] at hi
  have : numAt xs (argBest (fun i j => decide (numAt xs i > numAt xs j)) (xs.size - 1)) = (List.map (fun x => x.1) xs.toList).getD i 0 :=
    Int.le_antisymm (hm _ (by rw [numAt_eq]; exact getD_mem (by rw [List.length_map, Array.length_toList]; omega))) (numAt_eq xs i ▸ q2 i (by omega))
  exact this ▸ RdP.int _ _
theorem Call.sorted {ns out : List Int} (hl : ns.length < 64) (hp : out.Perm ns) (hs : out.Pairwise (· ≤ ·)) : Call c n (.builtin "sorted") [.p (.list (ns.map .int))] T (.p (.list (out.map .int))) T := .one fun _ _ s _ _ _ p ra => by
  obtain ⟨a, vs, m, sl, rfl, hn, g, r⟩ := RdP.inv ra
  have hi := ints_are r
  have hl' := r.length
  rw [List.length_map] at hl'
  refine sorted_ints (vs := vs.toList) ⟨_, g, rfl, m, by simp⟩ hi (by (first | (simp +arith only; done) | lia | omega)) fun o ns' hI' hp' hs' => ?_
  obtain ⟨e, he⟩ := sortedAll_at s.heap vs.toList o
  cases List.Perm.eq_of_pairwise (fun a b _ _ h1 h2 => Int.le_antisymm h1 h2) hs' hs (hp'.trans hp.symm)
  exact post_keeps (tk := s.toks) p (fun b o e => sortedAll_old e) (RdP.list ⟨_, _, _, _, rfl, fresh_not p.xlt (Nat.le_succ _), he, are_ints hI'⟩)
theorem Call.tuple {l : List PyData} (q : l.length ≤ 1000000) : Call c n (.type "tuple") [.p (.list l)] T (.p (.tuple l)) T := .one fun _ _ s _ _ _ p ra => by
  obtain ⟨a, vs, m, sl, rfl, hn, g, r⟩ := RdP.inv ra
  have e := r.length
  simp only [Array.length_toList] at e
  refine call_tuple_list (hsz := e ▸ Nat.le_trans q (by decide)) ⟨_, g, rfl, _, rfl⟩ fun h' hk => ?_
  have hk' : Keep s.heap (h'.push { cls := .type "tuple", data := .seq vs }) := fun b o e => Heap.get?_push_of_some _ (hk b o e)
  exact post_keeps (tk := s.toks) p hk' (RdP.tuple (Heap.get?_push_size _ rfl) rfl rfl (r.imp fun _ _ z => z.stable fun b o e _ => hk' b o e))
theorem Call.hex (q : (baseText "0x" 16 i).length ≤ sizeLine) : Call c n (.builtin "hex") [.p (.int i)] T (.p (.str (baseText "0x" 16 i))) T := .one fun _ _ _ _ _ _ p ra => by
  obtain ⟨t, rfl⟩ := RdP.inv ra
  exact P.hex_of_int (PostE.tok p.sp _ (RdP.str _ _)) q
end
end
noncomputable section
open PySem PySem.W PyProof.Rows PyProof.Rows.LSm
section
variable {c : Cx} {P : Sp} {n m : Nat} {T T' T'' : TS} {s s' s'' : Shared} {X : Addr → Prop} {sc : Scp} {A : Around} {env : Env} {Γ : Gam} {d : D} {v va vb fv : Value} {E : Value → Shared → Prop} {e l r : PySem.Expr} {a b : D} {i j k : Int} {pos np apos : Pos} {x y nm : Str} {ds : List D} {es : List PySem.Expr} {fs : Flds} {value slice lo : PySem.Expr}
noncomputable def Plains (value slice : PySem.Expr) : Prop := ∀ o i, subscripted slice false o i = operate [o, i] (getItem o i)
noncomputable def Sub (c : Cx) (n : Nat) (a b d : D) : Prop :=
  ∀ (value slice : PySem.Expr) P A s X T va vb E, Plains value slice → PreC c P n A s X T → Rd c P s.heap X va a → Rd c P s.heap X vb b → wpAny c.M A (subscriptTail value slice va vb) (PostE c P X T s d T) E s
theorem Ev.item (hs : Plains value slice) (hl : Ev c n sc Γ T value a T') (hr : Ev c n sc Γ T' slice b T'') (hb : Sub c n a b d) : Ev c n sc Γ T (.Subscript value slice pos) d T'' :=
  fun _ _ _ _ _ _ p => Subscript_ (hl.run p fun _ _ p1 o1 r1 => hr.run p1 fun _ _ p2 o2 r2 =>
    wpAny_mono (hb _ _ _ _ _ _ _ _ _ _ hs p2.pc (r1.stable (o2.stable p1.pc.sp)) r2) (fun _ _ q => q.trans (o1.trans o2)) fun _ _ e => e)
theorem seqIndex_of {m : Nat} (h : 0 ≤ k) (q : k.toNat < m) : seqIndex? k m = some k.toNat := by
  unfold seqIndex?
  dsimp only
  rw [if_neg (Int.not_lt.mpr h), if_pos (by simp; omega)]
theorem small_of {l : List β} {z : β} (h : l[k.toNat]? = some z) (q : l.length ≤ 1000000) : k < 2 ^ 63 := by
  have := (List.getElem?_eq_some_iff.mp h).1
  (first | (simp +arith only; done) | lia | omega)
theorem Sub.list {q : List PyData} {z : PyData} (h0 : 0 ≤ k) (hi : q[k.toNat]? = some z) (hq : q.length ≤ 1000000) : Sub c n (.p (.list q)) (.p (.int k)) (.p z) := fun _ _ _ _ _ _ _ _ _ _ hs p ra rb => by
  obtain ⟨t, rfl⟩ := RdP.inv rb
  obtain ⟨a, vs, m, sl, rfl, hn, g, r⟩ := RdP.inv ra
  obtain ⟨v, e, rv⟩ := r.get hi
  have hl : Heap.IsList _ a vs := ⟨_, g, rfl, _, rfl⟩
  exact tail_any hl.typeIs slot_list_getitem.lookup (wpAny_getItem_list hl h0 (small_of hi hq) (by simpa using e) (PostE.here p.sp rv)) (hs _ _)
theorem Sub.wsl {q : List Flds} {z : Flds} (h0 : 0 ≤ k) (hi : q[k.toNat]? = some z) (hq : q.length ≤ 1000000) : Sub c n (.wsl q) (.p (.int k)) (.ws z) := fun _ _ _ _ _ _ _ _ _ _ hs p ra rb => by
  obtain ⟨t, rfl⟩ := RdP.inv rb
  obtain ⟨a, o, vs, m, rfl, hn, g, hc, hd, r⟩ := ra
  obtain ⟨v, e, rv⟩ := r.get hi
  have hl : Heap.IsList _ a vs := ⟨o, g, hc, m, hd⟩
  exact tail_any hl.typeIs slot_list_getitem.lookup (wpAny_getItem_list hl h0 (small_of hi hq) (by simpa using e) (PostE.here p.sp rv)) (hs _ _)
theorem Sub.last {q : List PyData} {z : PyData} (hi : q.getLast? = some z) (hq : q.length ≤ 1000000) : Sub c n (.p (.list q)) (.p (.int (-1))) (.p z) := fun _ _ _ _ _ _ _ _ _ _ hs p ra rb => by
  obtain ⟨t, rfl⟩ := RdP.inv rb
  obtain ⟨a, vs, m, sl, rfl, hn, g, r⟩ := RdP.inv ra
  rw [List.getLast?_eq_getElem?] at hi
  obtain ⟨v, e, rv⟩ := r.get hi
  have len := r.length
  have hpos := (List.getElem?_eq_some_iff.mp hi).1
  simp only [Array.length_toList] at len
  have hl : Heap.IsList _ a vs := ⟨_, g, rfl, _, rfl⟩
  refine tail_any hl.typeIs slot_list_getitem.lookup (wpAny_getItem_list_neg hl (by decide) (by (first | (simp +arith only; done) | lia | omega)) (by decide) ?_ (PostE.here p.sp rv)) (hs _ _)
  rw [show ((-1 : Int) + vs.size).toNat = q.length - 1 by (first | (simp +arith only; done) | lia | omega)]
  simpa using e
theorem Sub.tuple {q : List PyData} {z : PyData} (h0 : 0 ≤ k) (hi : q[k.toNat]? = some z) (hq : q.length ≤ 1000000) : Sub c n (.p (.tuple q)) (.p (.int k)) (.p z) := fun _ _ _ _ _ _ _ _ _ _ hs p ra rb => by
  obtain ⟨t, rfl⟩ := RdP.inv rb
  obtain ⟨a, o, vs, m, rfl, g, hc, hd, r⟩ := RdP.inv ra
  obtain ⟨v, e, rv⟩ := r.get hi
  exact item_tupleT (l := vs.toList) ⟨o, g, hc, m, by simpa using hd⟩ (by (first | (simp +arith only; done) | lia | omega)) (small_of hi hq) (seqIndex_of h0 (List.getElem?_eq_some_iff.mp e).1) e (PostE.here p.sp rv) (hs _ _)
theorem Sub.str (q : 0 ≤ k ∧ k < x.length ∧ x.length ≤ 1000000) : Sub c n (.p (.str x)) (.p (.int k)) (.p (.str (Txt.item x k))) := fun _ _ P A s X T _ _ E hs p ra rb => by
  obtain ⟨u, rfl⟩ := RdP.inv rb
  obtain ⟨t, rfl⟩ := RdP.inv ra
  obtain ⟨T', id, hl, hT, hg⟩ := SBL.item (prog := c.prog) (w := c.w) (A := A) (E := E) (s := s) (x := x) (t := t) (i := k) (u := u) (Q := PostE c P X T s (.p (.str (Txt.item x k))) T) (by omega) (by omega) (by omega) (fun _ => PostE.tok p.sp _ (RdP.str _ _))
  exact tail_any hT hl hg (hs _ _)
theorem Ev.from {p1 : Pos} (hv : Ev c n sc Γ T value (.p (.str x)) T') (hi : Ev c n sc Γ T' lo (.p (.int k)) T'') (hq : x.length ≤ 1000000) : Ev c n sc Γ T (.Subscript value (.Slice (some lo) none none p1) pos) (.p (.str (Txt.slice x (some k) none))) T'' :=
  fun P A _ s X E p => Subscript_ (hv.run p fun _ _ p1 o1 r1 => wpAny_Slice (hi.run p1 fun _ s₂ p2 o2 r2 => wpAny_pure (wpAny_pure (by
    obtain ⟨t, rfl⟩ := RdP.inv r1
    obtain ⟨u, rfl⟩ := RdP.inv r2
    obtain ⟨_, id, hl, hT, hg⟩ := SBH.sliceItem_sn (prog := c.prog) (w := c.w) (A := A) (E := E) (s := s₂) (x := x) (t := t) (i := k) (ui := u) (Q := PostE c P X T s (.p (.str (Txt.slice x (some k) none))) T'') (P := Keep s₂.heap)
      (fun h ob q b o e => Heap.get?_push_of_some _ (q b o e)) (fun _ _ e => e) (fun h' t' k' q => ⟨(o1.trans o2).trans (Out.all q), p2.pc.sp.keeps q, RdP.str _ t'⟩) (by rw [sizeLine_eq]; (first | (simp +arith only; done) | lia | omega))
    exact tail_any (ops := [.ref s₂.heap.objs.size, .str x t]) hT hl hg (by rfl)))))
theorem Ev.upto {p1 : Pos} {hi : PySem.Expr} {q : List PyData} (hv : Ev c n sc Γ T (.Name nm np) (.p (.list q)) T') (h2 : Ev c n sc Γ T' hi (.p (.int k)) T'') (hq : (q.length : Int) ≤ k ∧ q.length ≤ 1000000) : Ev c n sc Γ T (.Subscript (.Name nm np) (.Slice none (some hi) none p1) pos) (.p (.list q)) T'' :=
  fun P A _ s X E p => wpAny_Subscript_list_slice (hv.run p fun _ _ p1 o1 r1 => wpAny_pure (h2.run p1 fun _ s₂ p2 o2 r2 => by
    obtain ⟨u, rfl⟩ := RdP.inv r2
    obtain ⟨a, vs, m, sl, rfl, hn, g, r⟩ := RdP.inv (r1.stable (o2.stable p1.pc.sp))
    have len := r.length
    simp only [Array.length_toList] at len
    refine ⟨a, vs, none, some _, rfl, ⟨_, g, rfl, _, rfl⟩, by rw [sizeLine_eq]; (first | (simp +arith only; done) | lia | omega), .none, .int _ _, ?_⟩
    have e : slicePick vs none (some k) none = vs := by
      have e : sliceBounds none (some k) none vs.size = sliceBounds none none none vs.size := by
        simp only [sliceBounds, Option.getD_none, show ¬ (k < 0) by (first | (simp +arith only; done) | lia | omega), if_false, show (1 : Int) > 0 by decide, if_true]
        congr 2; (first | (simp +arith only; done) | lia | omega)
      unfold slicePick
      rw [e]
      exact slicePick_all vs
    have kp : Keep s₂.heap (s₂.heap.push { cls := .type "slice", data := .fields #[.none, .int k u, .none] }) := fun _ _ e => Heap.get?_push_of_some _ e
    have o3 : Out P T'' T'' s₂ { s₂ with heap := s₂.heap.push { cls := .type "slice", data := .fields #[.none, .int k u, .none] } } := Out.all (tk := s₂.toks) kp
    have := PostE.newSeq (k := 0) (.inl ⟨rfl, rfl⟩) (p2.pc.sp.keeps kp) (o3.xlt (p2.pc.sp.keeps kp) p2.pc.xlt) (r.imp fun _ _ z => z.stable fun b o e _ => kp b o e)
    simp only [Heap.size_push] at this
    rw [e]
    exact this.trans (o1.trans (o2.trans o3))))
theorem handed_of {h : Heap} {pd : PyData} (r : RdP h X v pd) : handedIn v = true := by
  obtain ⟨as, r, _⟩ := r
  cases r <;> rfl
theorem look_of {des : Array DictEntry} {o : Obj} (ho : o.data = .dict des m) (hk : StrKeys des) : lookIn nm o = some (nsFind des nm) := by
  unfold lookIn nsFind findBy
  rw [ho]
  dsimp only
  rw [Array.find?_toList]
  cases des.find? fun e => e.key.isStr nm with
  | some _ => rfl
  | none =>
    refine if_neg fun z => ?_
    obtain ⟨e, he, q⟩ := List.any_eq_true.mp z
    obtain ⟨x, t, k⟩ := hk e (Array.mem_toList_iff.mp he)
    unfold DictEntry.refKey at q
    rw [k] at q
    cases q
theorem obj_look {ax dx : Addr} {h : Heap} (o : ObjAt c h X ax dx fs) : ∃ od, InstAt h ax ⟨.ref c.C, some dx, .plain, #[]⟩ c.C (some od) ∧ ∀ nm, (∀ d, fs.lookup nm = some d → ∃ v, lookIn nm od = some (some v) ∧ RdP h X v d) ∧ (fs.lookup nm = none → lookIn nm od = some none) := by
  obtain ⟨m, h1, ⟨od, des, ep, h2, hd, q1, _, qf⟩, q3, q4⟩ := o
  exact ⟨od, ⟨h1, rfl, rfl, h2⟩, fun nm => ⟨fun d e => (q3 nm d e).imp fun v q => ⟨(look_of hd q1).trans (congrArg some ((qf nm).trans q.1)), q.2⟩, fun e => (look_of hd q1).trans (congrArg some ((qf nm).trans (q4 nm e)))⟩⟩
theorem get_field {ax dx : Addr} {Q : Value → Shared → Prop} {pd : PyData} (p : PreC c P n A s X T) (o : ObjAt c s.heap X ax dx fs) (hf : fs.lookup nm = some pd) (hn : findIn c.K (.ref c.C) nm = some none) (h : ∀ v, RdP s.heap X v pd → Q v { s with toks := s.toks + 1 }) : wpAny c.M A (getAttr (.ref ax) nm true) Q E s := by
  obtain ⟨od, I, q⟩ := obj_look o
  obtain ⟨v, e, r⟩ := (q nm).1 pd hf
  refine get_value (p.st.k p.ok) I p.ok.ga ?_ (handed_of r) (h v r)
  have hd := p.ok.hd
  unfold findObj W.ownOf
  cases hc : clsIn c.K c.C with
  | none => rw [hc] at hd; cases hd
  | some cd =>
    rw [hc] at hd
    rw [hn]
    simp only [Option.bind_some, show cd.hasDict = true from hd, if_true, e]
theorem Ev.field (hl : Ev c n sc Γ T value (.ws fs) T') (hn : findIn c.K (.ref c.C) nm = some none) {pd : PyData} (hf : fs.lookup nm = some pd)
    (he : ∀ env : Env, eval (.Attribute value nm pos) env = (do let o ← eval value env; standAt pos.atName; let r ← holding [o] (getAttr o nm true); letTemporaryGo value o r; pure r)) : Ev c n sc Γ T (.Attribute value nm pos) (.p pd) T' :=
  fun _ _ env _ _ _ p => Attribute_any_ (hl.run p fun _ _ p1 o1 r1 => by
    obtain ⟨ax, dx, rfl, _, _, o⟩ := r1
    exact get_field p1.pc o hf hn fun v r => ⟨o1.trans (Out.all fun _ _ e => e), p1.pc.sp, r⟩) (he env)
theorem Ev.selfField (hl : Ev c n sc Γ T value .self T') (hn : findIn c.K (.ref c.C) nm = some none) {pd : PyData} (hT : T'.self = some fs) (hf : fs.lookup nm = some pd)
    (he : ∀ env : Env, eval (.Attribute value nm pos) env = (do let o ← eval value env; standAt pos.atName; let r ← holding [o] (getAttr o nm true); letTemporaryGo value o r; pure r)) : Ev c n sc Γ T (.Attribute value nm pos) (.p pd) T' :=
  fun _ _ env _ _ _ p => Attribute_any_ (hl.run p fun _ _ p1 o1 r1 => by
    cases (r1 : _ = _)
    exact get_field p1.pc (p1.pc.sp.self fs hT).2.2.2 hf hn fun v r => ⟨o1.trans (Out.all fun _ _ e => e), p1.pc.sp, r⟩) (he env)
theorem Ev.clsStr {mc : Value} {t : Tok} (hx : sc.lookup y = some .globalImplicit) (hd : (y == ("__debug__" : Str)) = false) (hv : c.mg y = some (.ref c.C)) (hr : readsIn c.K c.C mc = true) (hf : findCls c.K (.ref c.C) mc nm = some (.val (.str x t)))
    (he : ∀ env : Env, eval (.Attribute (.Name y np) nm pos) env = (do let o ← eval (.Name y np) env; standAt pos.atName; let r ← holding [o] (getAttr o nm true); letTemporaryGo (.Name y np) o r; pure r)) : Ev c n sc Γ T (.Attribute (.Name y np) nm pos) (.p (.str x)) T :=
  fun _ _ env _ _ _ p => Attribute_any_ (glob_load p hx hd (.inl hv) (cls_value (p.pc.st.k p.pc.ok) hr hf rfl (PostE.tok p.pc.sp _ (RdP.str x t)))) (he env)
noncomputable abbrev plOf (o : PySem.Expr) (env : Env) : Sem Bool := do return (← importBound o env).getD true
noncomputable def Meth (c : Cx) (n : Nat) (a : D) (name : Str) (fv : Value) : Prop := ∀ P A s X T v pl Q E, PreC c P n A s X T → Rd c P s.heap X v a → Q (fv, [v]) s → wpAny c.M A (getMethod v name pl) Q E s
theorem Meth.split : Meth c n (.p (.str x)) "split" (.builtin "str.split") := fun _ _ _ _ _ _ _ _ _ p ra h => by
  obtain ⟨t, rfl⟩ := RdP.inv ra
  exact GM.split h
theorem Meth.join : Meth c n (.p (.str x)) "join" (.builtin "str.join") := fun _ _ _ _ _ _ _ _ _ p ra h => by
  obtain ⟨t, rfl⟩ := RdP.inv ra
  exact GM.join h
theorem Meth.ws {f : Addr} (hf : findIn c.K (.ref c.C) nm = some (some (.ref f))) (ht : typeIn c.K (.ref f) = some (.type "function")) (hl : fs.lookup nm = none) : Meth c n (.ws fs) nm (.ref f) := fun _ _ _ _ _ _ _ _ _ p ra h => by
  obtain ⟨ax, dx, rfl, _, _, o⟩ := ra
  obtain ⟨od, I, q⟩ := obj_look o
  exact method_fn (p.st.k p.ok) I p.ok.ga p.ok.gt hf ht (congrArg (Option.map Option.isSome) ((q nm).2 hl)) h
theorem Ev.meth (hm : Meth c n a nm fv) (hk : Keep3 c fv) (hp : ∀ (env : Env) (pos : Pos), (backTo pos (starEach es env)).any (·.1) = false) {o : PySem.Expr} {T3 : TS} (hl : Ev c n sc Γ T o a T') (hg : EvL c n sc Γ T' es ds T'') (hF : Call c n fv (a :: ds) T'' d T3)
    (he : ∀ env : Env, eval (.Call (.Attribute o nm apos) es [] pos) env = (do let ov ← eval o env; standAt apos.atName; let (f, first) ← holding [ov] (getMethod ov nm (plOf o env)); callWith pos f first (backTo pos (starEach es env)) (backToKw pos (keywordEach [] env)))) : Ev c n sc Γ T (.Call (.Attribute o nm apos) es [] pos) d T3 :=
  fun _ _ env _ _ _ p => methodCall_KW (hl.run p fun _ _ p1 o1 r1 => hm _ _ _ _ _ _ _ _ _ p1.pc r1 (wpAny_mono (callWith_ok (pre := [a]) p1 hk hp hg hF (.cons r1 .nil)) (fun _ _ q => q.trans o1) fun _ _ e => e)) (he env)
theorem strs_are {h : Heap} {xs : List Str} : ∀ {vs : List Value}, All2 (RdP h X) vs (xs.map .str) → StrsAre vs xs := by
  induction xs with
  | nil => intro vs r; cases r; exact .nil
  | cons i ns ih =>
    intro vs r
    cases r with | cons a b =>
    obtain ⟨t, rfl⟩ := RdP.inv a
    exact .cons i t (ih b)
theorem are_strs {h : Heap} (l : List (Str × Tok)) : All2 (RdP h X) (strValues l) ((l.map (·.1)).map .str) := by
  induction l with
  | nil => exact .nil
  | cons p l ih => exact .cons (RdP.str p.1 p.2) ih
theorem Call.split {xs : List Str} (h : Txt.split x y = xs) (hy : (y.length == 0) = false) (hx : x.length ≤ sizeLine) (hz : (Builtin.Str.partsBetween x (Builtin.Str.occurrences x y 0 x.length (x.length + 1)) y.length).length ≤ sizeLine) : Call c n (.builtin "str.split") [.p (.str x), .p (.str y)] T (.p (.list (xs.map .str))) T := .two fun P A s X _ _ E p ra rb => by
  obtain ⟨t, rfl⟩ := RdP.inv ra
  obtain ⟨u, rfl⟩ := RdP.inv rb
  have fin : ∀ (l : List (Str × Tok)) tk m, l.map (·.1) = Txt.split x y → PostE c P X T s (.p (.list (xs.map .str))) T (.ref s.heap.objs.size) { s with toks := tk, heap := s.heap.push { cls := .type "list", data := .seq (strValues l).toArray m } } := fun l tk m e => by
    have q := PostE.newSeq (k := m) (s := { s with toks := tk }) (.inl ⟨rfl, rfl⟩) p.sp p.xlt (are_strs l)
    rw [e, h] at q
    exact q.trans (Out.all fun _ _ e => e)
  cases h1 : (decide (x.length < y.length) || decide (Builtin.Str.strKind x < Builtin.Str.strKind y))
  · cases hf : (Builtin.Str.occurrences x y 0 x.length (x.length + 1)).isEmpty
    · refine call_meets F.slot_str_split (typeIs_str _ _ _) F.entry_str_split (F.args_str_split_2 _ _) (meets_str_split_sep x y t u h1 hy hf hx hz) ?_
      rw [strsFrom_eq]
      exact fin _ _ _ ((numbered_texts _ _).trans ((if_neg (ne_true_of_eq_false h1)).trans (if_neg (ne_true_of_eq_false hf))).symm)
    · exact call_meets F.slot_str_split (typeIs_str _ _ _) F.entry_str_split (F.args_str_split_2 _ _) (meets_str_split_not_found x y t u h1 hy hf)
        (fin [(x, t)] _ _ ((if_neg (ne_true_of_eq_false h1)).trans (if_pos hf)).symm)
  · exact call_meets F.slot_str_split (typeIs_str _ _ _) F.entry_str_split (F.args_str_split_2 _ _) (meets_str_split_cannot_occur x y t u h1)
      (fin [(x, t)] _ _ (if_pos h1).symm)
theorem Call.join {xs : List Str} (hok : (xs.map (·.length)).sum + xs.length * x.length ≤ 16777216) : Call c n (.builtin "str.join") [.p (.str x), .p (.list (xs.map .str))] T (.p (.str (Txt.join x xs))) T := .two fun _ _ _ _ _ _ _ p ra rb => by
  obtain ⟨t, rfl⟩ := RdP.inv ra
  obtain ⟨a, vs, m, sl, rfl, hn, g, r⟩ := RdP.inv rb
  exact join_list ⟨_, g, rfl, _, rfl⟩ (strs_are r) hok fun t' k => PostE.tok p.sp _ (RdP.str _ _)
end
end
noncomputable section
open PySem PySem.W PyProof.Rows PyProof.Rows.LSm
noncomputable def Un (X W : Addr → Prop) : Addr → Prop := fun b => X b ∨ W b
noncomputable def OwnAt (h : Heap) (X W : Addr → Prop) (v : Value) (l : List PyData) : Prop := ∃ a vs n, v = .ref a ∧ W a ∧ h.get? a = some ⟨.type "list", none, .seq vs n, #[]⟩ ∧ All2 (RdP h X) vs.toList l
noncomputable def RdS (c : Cx) (P : Sp) (h : Heap) (X W : Addr → Prop) (v : Value) : Slot → Prop
  | .v d => Rd c P h X v d
  | .own l => OwnAt h X W v l
  | .own2 ll => ∃ a vs n, v = .ref a ∧ W a ∧ h.get? a = some ⟨.type "list", none, .seq vs n, #[]⟩ ∧ All2 (OwnAt h X W) vs.toList ll ∧ vs.toList.Nodup ∧ .ref a ∉ vs.toList
noncomputable def AcAt (c : Cx) (P : Sp) (h : Heap) (X W : Addr → Prop) (ac : Option (Addr × List D)) : Prop := ∀ q, ac = some q → W q.1 ∧ ∃ vs n, h.get? q.1 = some ⟨.type "list", none, .seq vs n, #[]⟩ ∧ All2 (Rd c P h X) vs.toList q.2
noncomputable def hideS : Slot → Option Slot
  | .v d => some (.v d)
  | _ => none
noncomputable def hide (Γ : Gam) : Gam := Γ.map fun o => o.bind hideS
noncomputable def Clo (RP : Shared → (Addr → Prop) → Prop) : Prop := ∀ (s s' : Shared) X Y, RP s X → (∃ h tk, s' = { s with heap := h, toks := tk }) → Stable X s.heap s'.heap → (∀ a, Y a → X a ∨ s.heap.get? a = none) → RP s' Y
structure Inv (c : Cx) (P : Sp) (n : Nat) (sc : Scp) (ow : List Str) (A : Around) (env : Env) (s : Shared) (X₀ W : Addr → Prop) (K₀ : Addr → Obj → Prop) (RP : Shared → (Addr → Prop) → Prop) (ac : Option (Addr × List D)) (Γ : Gam) (T : TS) : Prop where
  pc : PreC c P n A s (Un X₀ W) T
  es : EnvS sc env
  cx : ∀ x a, env.cells.lookup x = some a → ∃ v, s.heap.IsCell a v
  wx : ∀ a, W a → c.h₀.get? a = none ∧ ¬ X₀ a
  sx : (T.tape = none ∨ X₀ P.τ) ∧ (T.self = none ∨ X₀ P.dx)
  wl : W env.locals ∧ ∃ m, s.heap.Ns env.locals m
  cw : ∀ x ∈ ow, ∃ a v, env.cells.lookup x = some a ∧ W a ∧ s.heap.IsCell a v
  kp : ∀ b o, K₀ b o → s.heap.get? b = some o ∧ ¬ W b ∧ (b = P.τ → T.tape = none) ∧ (b = P.dx → T.self = none)
  rc : Clo RP
  rp : RP s (Un X₀ W)
  ac : AcAt c P s.heap (Un X₀ W) W ac
  bd : ∀ k x kd sl, sc[k]? = some (x, kd) → gget Γ k = some sl → ∃ v, Bound s.heap env x v kd ∧ RdS c P s.heap (Un X₀ W) W v sl
section
variable {c : Cx} {P : Sp} {n m : Nat} {T T' T'' : TS} {s s' s'' : Shared} {X X₀ Y W W' B : Addr → Prop} {K₀ K₁ : Addr → Obj → Prop} {sc : Scp} {ow : List Str} {A : Around} {env : Env} {Γ Γ' : Gam} {d : D} {v : Value} {sl : Slot} {E : Value → Shared → Prop} {e : PySem.Expr} {h h' : Heap} {l : List PyData} {ac ac' : Option (Addr × List D)} {RP : Shared → (Addr → Prop) → Prop}
structure Chg (c : Cx) (P : Sp) (B : Addr → Prop) (X : Addr → Prop) (T : TS) (s s' : Shared) : Prop where
  same : ∃ h tk, s' = { s with heap := h, toks := tk }
  keep : ∀ b o, s.heap.get? b = some o → ¬ B b → s'.heap.get? b = some o
  bx : ∀ b, B b → X b ∧ c.h₀.get? b = none ∧ (b = P.τ → T.tape = none) ∧ (b = P.dx → T.self = none)
  nt : ∀ b o, B b → s.heap.get? b = some o → ¬ IsTup o
theorem Chg.stable (k : Chg c P B X T s s') : Stable X s.heap s'.heap := fun b o e q => k.keep b o e fun hb => k.nt b o hb e (q (k.bx b hb).1)
theorem Chg.sp (k : Chg c P B X T s s') (q : SpOK c P s.heap X T) (hx : ∀ a, Y a → X a) (sx : (T.tape = none ∨ Y P.τ) ∧ (T.self = none ∨ Y P.dx)) : SpOK c P s'.heap Y T :=
  ⟨fun bs e => (q.tape bs e).imp (fun _ => sx.1.resolve_left fun z => (nomatch e.symm.trans z)) fun z => z.imp_right fun z => z.imp fun _ z => z.imp fun _ z => z.imp fun _ z => z.imp_left fun g => k.keep _ _ g fun hb => (nomatch e.symm.trans ((k.bx _ hb).2.2.1 rfl)),
   fun fs e => (q.self fs e).imp (fun _ => sx.2.resolve_left fun z => (nomatch e.symm.trans z)) fun z => z.imp_right fun z => ⟨fun w => z.1 (hx _ w), z.2.mono (fun o g => k.keep _ _ g fun hb => z.1 (k.bx _ hb).1) (fun o g => k.keep _ _ g fun hb => (nomatch e.symm.trans ((k.bx _ hb).2.2.2 rfl))) fun _ _ r => (r.stable k.stable).anti hx⟩⟩
theorem Chg.pc (k : Chg c P B X T s s') (p : PreC c P n A s X T) (hx : ∀ a, Y a → X a) (al : ∀ a, Y a → B a → ∃ o, s'.heap.get? a = some o) (sx : (T.tape = none ∨ Y P.τ) ∧ (T.self = none ∨ Y P.dx)) : PreC c P n A s' Y T :=
  ⟨p.ok, p.a, fun b o e => k.keep b o (p.st b o e) fun hb => (nomatch e.symm.trans (k.bx b hb).2.1), fun a x => (Classical.em (B a)).elim (al a x) fun hb => (p.xlt a (hx a x)).imp fun o e => k.keep a o e hb, k.sp p.sp hx sx⟩
theorem OwnAt.imp (q : OwnAt h X W v l) (k1 : ∀ a, W a → B a) (k2 : ∀ a vs n, W a → h.get? a = some ⟨.type "list", none, .seq vs n, #[]⟩ → h'.get? a = some ⟨.type "list", none, .seq vs n, #[]⟩) (k : ∀ v d, RdP h X v d → RdP h' Y v d) : OwnAt h' Y B v l := by
  obtain ⟨a, vs, m, e, w, g, r⟩ := q
  exact ⟨a, vs, m, e, k1 a w, k2 a vs m w g, r.imp k⟩
theorem RdS.imp (q : RdS c P h X W v sl) (k1 : ∀ a, W a → B a) (k2 : ∀ a vs n, W a → h.get? a = some ⟨.type "list", none, .seq vs n, #[]⟩ → h'.get? a = some ⟨.type "list", none, .seq vs n, #[]⟩) (k : ∀ v d, Rd c P h X v d → Rd c P h' Y v d) : RdS c P h' Y B v sl := by
  cases sl with
  | v d => exact k v d q
  | own l => exact OwnAt.imp q k1 k2 fun v d => k v (.p d)
  | own2 ll =>
    obtain ⟨a, vs, m, e, w, g, r, u⟩ := q
    exact ⟨a, vs, m, e, k1 a w, k2 a vs m w g, r.imp fun _ _ z => OwnAt.imp z k1 k2 fun v d => k v (.p d), u⟩
theorem nsData {a : Addr} {mm : Str → Option Value} {o : Obj} {vs : Array Value} (z : h.Ns a mm) (g : h.get? a = some o) (f : o.data = .fields vs) : False := by
  obtain ⟨_, _, _, g', hd, _⟩ := z
  cases g.symm.trans g'
  cases hd.symm.trans f
theorem AcAt.imp (q : AcAt c P h X W ac) (k2 : ∀ a vs n, W a → h.get? a = some ⟨.type "list", none, .seq vs n, #[]⟩ → h'.get? a = some ⟨.type "list", none, .seq vs n, #[]⟩) (k : ∀ v d, Rd c P h X v d → Rd c P h' Y v d) : AcAt c P h' Y W ac := fun q' e =>
  let ⟨w, vs, m, g, r⟩ := q q' e; ⟨w, vs, m, k2 _ _ _ w g, r.imp k⟩
theorem kept_of (o : Out P T T' s s') (q : SpOK c P s.heap X T) {b : Addr} {ob : Obj} (g : s.heap.get? b = some ob) (f : ∀ vs, ob.data ≠ .fields vs) : s'.heap.get? b = some ob := o.nt q g fun _ _ z => z.elim fun vs z => absurd z (f vs)
theorem PreC.outX (p : PreC c P n A s X T) (o : Out P T T' s s') (q : SpOK c P s'.heap X T') (hX : ∀ b, X b → Y b) (hY : ∀ b, Y b → X b ∨ s.heap.get? b = none ∧ ∃ ob, s'.heap.get? b = some ob) : PreC c P n A s' Y T' ∧ ∀ v d, Rd c P s.heap X v d → Rd c P s'.heap Y v d := by
  have hU : ∀ b, Y b → X b ∨ s.heap.get? b = none := fun b z => (hY b z).imp id And.left
  have st : Stable Y s.heap s'.heap := fun b ob e z => o.stable p.sp b ob e fun x => z (hX b x)
  have rd : ∀ v d, Rd c P s.heap X v d → Rd c P s'.heap Y v d := fun v d r => (r.gro hU).stable st
  have p' := p.next o q
  refine ⟨⟨p'.ok, p'.a, p'.st, fun a z => (hY a z).elim (p'.xlt a) And.right, fun bs e => (q.tape bs e).imp_left (hX _), fun fs e => ?_⟩, rd⟩
  obtain ⟨z1, z2, z3, z4⟩ := p.sp.self fs (o.sf.symm.trans e)
  refine ⟨hX _ z1, z2, fun w => (hU _ w).elim z3 fun w => (by obtain ⟨_, g, _⟩ := z4; exact nomatch w.symm.trans g), z4.mono (fun ob g => kept_of o p.sp g fun vs f => ?_) (fun ob g => kept_of o p.sp g fun vs f => ?_) fun v d => rd v (.p d)⟩
  · obtain ⟨_, g', _⟩ := z4
    cases g.symm.trans g'
    cases f
  · obtain ⟨_, _, g', _⟩ := z4
    exact nsData g'.ns g f
theorem Inv.outX (I : Inv c P n sc ow A env s X₀ W K₀ RP ac Γ T) (o : Out P T T' s s') (q : SpOK c P s'.heap (Un X₀ W) T') (hX : ∀ b, X₀ b → Y b) (hW : ∀ b, W b → W' b) (hU : ∀ b, Un Y W' b → Un X₀ W b ∨ s.heap.get? b = none ∧ ∃ ob, s'.heap.get? b = some ob) (hD : ∀ b, W' b → ¬ Y b) : Inv c P n sc ow A env s' Y W' K₀ RP ac Γ T' := by
  have kt : ∀ {b ob}, s.heap.get? b = some ob → (∀ vs, ob.data ≠ .fields vs) → s'.heap.get? b = some ob := fun g f => kept_of o I.pc.sp g f
  have kc : ∀ {a v}, s.heap.IsCell a v → s'.heap.IsCell a v := fun z => z.imp fun ob g => ⟨kt g.1 fun vs f => (nomatch g.2.symm.trans f), g.2⟩
  have w0 : ∀ b, s.heap.get? b = none → c.h₀.get? b = none := fun b z => by
    cases e : c.h₀.get? b with
    | none => rfl
    | some ob => exact nomatch z.symm.trans (I.pc.st b ob e)
  have old : ∀ b ob, s.heap.get? b = some ob → W' b → W b := fun b ob e w => (hU b (.inr w)).elim (fun z => z.elim (fun z => absurd (hX b z) (hD b w)) id) fun z => (nomatch z.1.symm.trans e)
  obtain ⟨p', rd⟩ := I.pc.outX o q (fun b z => z.imp (hX b) (hW b)) hU
  refine ⟨p', I.es, fun x a z => (I.cx x a z).imp fun _ => kc, fun a w => ⟨(hU a (.inr w)).elim (fun z => z.elim (fun z => absurd (hX a z) (hD a w)) fun z => (I.wx a z).1) fun z => w0 a z.1, hD a w⟩, ⟨I.sx.1.imp o.nn.mp (hX _), I.sx.2.imp (fun z => o.sf.trans z) (hX _)⟩,
    ⟨hW _ I.wl.1, I.wl.2.imp fun m z => z.at fun ob g => kt g fun vs f => nsData z g f⟩, fun x hx => ?_, fun b ob z => ?_, I.rc, I.rc _ _ _ _ I.rp o.same (o.stable I.pc.sp) fun b z => (hU b z).imp id And.left,
    fun q' e => let ⟨w, vs, m, g, r⟩ := I.ac q' e; ⟨hW _ w, vs, m, kt g fun _ f => (nomatch f), r.imp rd⟩, fun k x kd sl h1 h2 => ?_⟩
  · exact (I.cw x hx).imp fun a z => z.imp fun v z => ⟨z.1, hW _ z.2.1, kc z.2.2⟩
  · obtain ⟨z1, z2, z3, z4⟩ := I.kp b ob z
    exact ⟨o.keep b ob z1 z3, fun w => z2 (old b ob z1 w), fun e => o.nn.mp (z3 e), fun e => o.sf.trans (z4 e)⟩
  · exact (I.bd k x kd sl h1 h2).imp fun v z => ⟨o.bound I.pc.sp z.1, z.2.imp hW (fun a vs m _ g => kt g fun _ f => (nomatch f)) rd⟩
theorem Inv.out (I : Inv c P n sc ow A env s X₀ W K₀ RP ac Γ T) (o : Out P T T' s s') (q : SpOK c P s'.heap (Un X₀ W) T') : Inv c P n sc ow A env s' X₀ W K₀ RP ac Γ T' := I.outX o q (fun _ z => z) (fun _ z => z) (fun _ z => .inl z) fun b w => (I.wx b w).2
theorem gget_map {f : Slot → Option Slot} {k : Nat} : gget (Γ.map fun o => o.bind f) k = (gget Γ k).bind f := by
  unfold gget
  rw [List.getElem?_map]
  cases Γ[k]? <;> rfl
theorem Inv.pre (I : Inv c P n sc ow A env s X₀ W K₀ RP ac Γ T) : Pre c P n sc A env s (Un X₀ W) (hide Γ) T := ⟨I.pc, I.es, I.cx, fun k x kd sl h1 h2 => by
  rw [hide, gget_map] at h2
  obtain ⟨sl', e1, e2⟩ := Option.bind_eq_some_iff.mp h2
  refine (I.bd k x kd sl' h1 e1).imp fun v z => ⟨z.1, ?_⟩
  cases sl' with
  | v d => cases e2; exact z.2
  | own l => cases e2
  | own2 l => cases e2⟩
theorem Inv.ev (I : Inv c P n sc ow A env s X₀ W K₀ RP ac Γ T) (h : Ev c n sc (hide Γ) T e d T') {Q : Value → Shared → Prop} (k : ∀ v s', Inv c P n sc ow A env s' X₀ W K₀ RP ac Γ T' → Rd c P s'.heap (Un X₀ W) v d → Q v s') : wpAny c.M A (eval e env) Q E s :=
  h.run I.pre fun v s' p o r => k v s' (I.out o p.pc.sp) r
theorem Inv.tr (I : Inv c P n sc ow A env s X₀ W K₀ RP ac Γ T) {b : Bool} (h : Tr c n sc (hide Γ) T e b T') {Q : Bool → Shared → Prop} (k : ∀ s', Inv c P n sc ow A env s' X₀ W K₀ RP ac Γ T' → Q b s') : wpAny c.M A (isTrue e env (eval e env)) Q E s :=
  h.run I.pre fun s' p o => k s' (I.out o p.pc.sp)
theorem Inv.weak (I : Inv c P n sc ow A env s X₀ W K₀ RP ac Γ' T) (h : ∀ k sl, gget Γ k = some sl → gget Γ' k = some sl) (hK : ∀ b o, K₁ b o → K₀ b o) : Inv c P n sc ow A env s X₀ W K₁ RP ac Γ T :=
  ⟨I.pc, I.es, I.cx, I.wx, I.sx, I.wl, I.cw, fun b o z => I.kp b o (hK b o z), I.rc, I.rp, I.ac, fun k x kd sl h1 h2 => I.bd k x kd sl h1 (h k sl h2)⟩
theorem Inv.chg (I : Inv c P n sc ow A env s Y W K₀ RP ac Γ T) (k : Chg c P B Y T s s') (hK : ∀ b o, K₀ b o → ¬ B b) (hc : ∀ b o v, B b → s.heap.get? b = some o → o.data ≠ .cell v)
    (hx : ∀ a, X₀ a → Y a ∧ (B a → ∃ o, s'.heap.get? a = some o)) (sx : (T.tape = none ∨ X₀ P.τ) ∧ (T.self = none ∨ X₀ P.dx)) : Inv c P n sc ow A env s' X₀ W K₀ RP ac Γ T := by
  have kU : Chg c P B (Un Y W) T s s' := ⟨k.same, k.keep, fun b hb => ⟨.inl (k.bx b hb).1, (k.bx b hb).2⟩, k.nt⟩
  have kw : ∀ {a o}, W a → s.heap.get? a = some o → s'.heap.get? a = some o := fun w g => k.keep _ _ g fun hb => (I.wx _ w).2 (k.bx _ hb).1
  have kc : ∀ {a v}, s.heap.IsCell a v → s'.heap.IsCell a v := fun z => z.imp fun o g => ⟨k.keep _ _ g.1 fun hb => hc _ _ _ hb g.1 g.2, g.2⟩
  have hu : ∀ a, Un X₀ W a → Un Y W a := fun a z => z.imp_left fun z => (hx a z).1
  have rd : ∀ v d, Rd c P s.heap (Un Y W) v d → Rd c P s'.heap (Un X₀ W) v d := fun v d r => (r.stable kU.stable).anti hu
  refine ⟨kU.pc I.pc hu (fun a z hb => z.elim (fun z => (hx a z).2 hb) fun w => absurd (k.bx _ hb).1 (I.wx _ w).2) ⟨sx.1.imp_right .inl, sx.2.imp_right .inl⟩, I.es, fun x a z => (I.cx x a z).imp fun _ => kc, fun a w => ⟨(I.wx a w).1, fun z => (I.wx a w).2 (hx a z).1⟩, sx, ⟨I.wl.1, I.wl.2.imp fun m z => z.at fun ob g => kw I.wl.1 g⟩, fun x hx => (I.cw x hx).imp fun a z => z.imp fun v z => ⟨z.1, z.2.1, kc z.2.2⟩,
    fun b ob z => ⟨k.keep _ _ (I.kp b ob z).1 (hK b ob z), (I.kp b ob z).2⟩, I.rc, I.rc _ _ _ _ I.rp kU.same kU.stable (fun a z => .inl (hu a z)), I.ac.imp (fun a vs m w g => kw w g) rd, fun j x kd sl h1 h2 => (I.bd j x kd sl h1 h2).imp fun v z => ⟨?_, z.2.imp (fun _ z => z) (fun a vs m w g => kw w g) rd⟩⟩
  cases kd with
  | «local» => exact z.1.imp fun m q => ⟨q.1.at fun ob g => kw I.wl.1 g, q.2⟩
  | cell => exact z.1.imp fun m q => ⟨q.1, kc q.2⟩
  | free => exact z.1.imp fun m q => ⟨q.1, kc q.2⟩
  | globalExplicit => exact z.1.elim
  | globalImplicit => exact z.1.elim
theorem gget_set {k j : Nat} (hk : k < Γ.length) : gget (Γ.set k (some sl)) j = if j = k then some sl else gget Γ j := by
  unfold gget
  rw [List.getElem?_set]
  by_cases e : j = k
  · rw [if_pos e, if_pos e.symm, if_pos hk]; rfl
  · rw [if_neg e, if_neg (Ne.symm e)]
theorem EnvS.idx (q : EnvS sc env) {j k : Nat} {x : Str} {kd kd' : NameKind} (h1 : sc[j]? = some (x, kd)) (h2 : sc[k]? = some (x, kd')) : j = k :=
  (List.getElem?_inj (by rw [List.length_map]; exact (List.getElem?_eq_some_iff.mp h1).1) q.nd).mp (by rw [List.getElem?_map, List.getElem?_map, h1, h2]; rfl)
theorem same_chg {b : Addr} {o : Obj} {tk : Nat} (I : Inv c P n sc ow A env s X₀ W K₀ RP ac Γ T) (wb : W b) (g : s.heap.get? b = some o) (ht : ¬ IsTup o) (sb : Heap.SameBut b s.heap h') : Chg c P (· = b) (Un X₀ W) T s { s with heap := h', toks := tk } :=
  ⟨⟨_, _, rfl⟩, fun _ _ e q => (sb.2 _ q).trans e, 
   fun _ e => e ▸ ⟨.inr wb, (I.wx b wb).1, fun e => I.sx.1.resolve_right fun z => (I.wx b wb).2 (e ▸ z), fun e => I.sx.2.resolve_right fun z => (I.wx b wb).2 (e ▸ z)⟩, fun _ _ e q => by cases e; cases g.symm.trans q; exact ht⟩
theorem Inv.put {b : Addr} (I : Inv c P n sc ow A env s X₀ W K₀ RP ac Γ T) (k : Chg c P (· = b) (Un X₀ W) T s s') (wb : W b) (al : ∃ o, s'.heap.get? b = some o) (hL : ∃ m, s'.heap.Ns env.locals m) (hC : ∀ x a v, env.cells.lookup x = some a → s.heap.IsCell a v → ∃ v, s'.heap.IsCell a v)
    (hA : AcAt c P s'.heap (Un X₀ W) W ac')
    (hB : ∀ j y kd sl, sc[j]? = some (y, kd) → gget Γ' j = some sl → ∃ v, Bound s'.heap env y v kd ∧ RdS c P s'.heap (Un X₀ W) W v sl) : Inv c P n sc ow A env s' X₀ W K₀ RP ac' Γ' T :=
  ⟨k.pc I.pc (fun _ z => z) (fun a _ e => e ▸ al) ⟨I.sx.1.imp_right .inl, I.sx.2.imp_right .inl⟩, I.es, fun x a z => (I.cx x a z).elim fun v w => hC x a v z w, I.wx, I.sx, ⟨I.wl.1, hL⟩, fun x hx => (I.cw x hx).imp fun a z => z.elim fun v z => (hC x a v z.1 z.2.2).imp fun _ q => ⟨z.1, z.2.1, q⟩,
   fun b' o z => ⟨k.keep _ _ (I.kp b' o z).1 fun e => (I.kp b' o z).2.1 (e ▸ wb), (I.kp b' o z).2⟩, I.rc, I.rc _ _ _ _ I.rp k.same k.stable fun _ z => .inl z, hA, hB⟩
theorem Inv.store (I : Inv c P n sc ow A env s X₀ W K₀ RP ac Γ T) {k : Nat} {x : Str} {kd : NameKind} {Q : Unit → Shared → Prop} (hk : sc[k]? = some (x, kd)) (hl : k < Γ.length) (hkd : kd = .local ∨ kd = .cell ∧ x ∈ ow) (hv : RdS c P s.heap (Un X₀ W) W v sl)
    (h : ∀ s', Inv c P n sc ow A env s' X₀ W K₀ RP ac (Γ.set k (some sl)) T → Stable (Un X₀ W) s.heap s'.heap → Q () s') : wpAny c.M A (storeName env x v) Q E s := by
  have kk := I.es.kind hk
  have rs : ∀ {b h' tk}, Chg c P (· = b) (Un X₀ W) T s { s with heap := h', toks := tk } → (∀ o, s.heap.get? b = some o → ∀ vs n, o.data ≠ .seq vs n) → ∀ {u t}, RdS c P s.heap (Un X₀ W) W u t → RdS c P h' (Un X₀ W) W u t := fun kc q _ _ r =>
    r.imp (fun _ z => z) (fun a vs m w g => kc.keep _ _ g fun e => q _ (e ▸ g) _ _ rfl) fun v d r => r.stable kc.stable
  have as : ∀ {b h' tk}, Chg c P (· = b) (Un X₀ W) T s { s with heap := h', toks := tk } → (∀ o, s.heap.get? b = some o → ∀ vs n, o.data ≠ .seq vs n) → AcAt c P h' (Un X₀ W) W ac := fun kc q =>
    I.ac.imp (fun a vs m w g => kc.keep _ _ g fun e => q _ (e ▸ g) _ _ rfl) fun v d r => r.stable kc.stable
  rcases hkd with rfl | ⟨rfl, hx⟩
  · obtain ⟨m, hn⟩ := I.wl.2
    obtain ⟨o, es, ep, g, hd, _⟩ := id hn
    refine wpAny_storeName_local kk hn (fun h' hn' sb => ?_) (by rw [I.es.fk']; rfl)
    have kc := same_chg (tk := s.toks + 1) I I.wl.1 g (fun q => q.2.elim fun _ q => q.elim fun _ q => (nomatch hd.symm.trans q)) sb
    have cell : ∀ {a v}, s.heap.IsCell a v → h'.IsCell a v := fun z => z.imp fun ob q => ⟨kc.keep _ _ q.1 fun e => by cases (e ▸ q.1).symm.trans g; exact (nomatch hd.symm.trans q.2), q.2⟩
    refine h _ (I.put kc I.wl.1 (let ⟨o', _, _, g', _⟩ := hn'; ⟨o', g'⟩) ⟨_, hn'⟩ (fun _ _ v _ z => ⟨v, cell z⟩) (as kc fun o' q vs n z => by cases g.symm.trans q; cases hd.symm.trans z) fun j y kd t h1 h2 => ?_) kc.stable
    rw [gget_set hl] at h2
    by_cases e : j = k
    · rw [if_pos e] at h2
      cases h2; cases e; cases hk.symm.trans h1
      exact ⟨v, ⟨_, hn', if_pos rfl⟩, rs kc (fun o' q vs n z => by cases g.symm.trans q; cases hd.symm.trans z) hv⟩
    · rw [if_neg e] at h2
      refine (I.bd j y kd t h1 h2).imp fun u z => ⟨?_, rs kc (fun o' q vs n z => by cases g.symm.trans q; cases hd.symm.trans z) z.2⟩
      cases kd with
      | «local» =>
        obtain ⟨m', q, eq⟩ := z.1
        exact ⟨_, hn', by rw [if_neg fun e' => e (I.es.idx (e' ▸ h1) hk), hn.agree q]; exact eq⟩
      | cell => exact z.1.imp fun _ q => ⟨q.1, cell q.2⟩
      | free => exact z.1.imp fun _ q => ⟨q.1, cell q.2⟩
      | globalExplicit => exact z.1.elim
      | globalImplicit => exact z.1.elim
  · obtain ⟨a, v₀, hl', wa, hc⟩ := I.cw x hx
    obtain ⟨o, g, hd⟩ := id hc
    refine wpAny_storeName_cell I.es.fk' kk hl' hc fun h' hc' sb => ?_
    have kc := same_chg (tk := s.toks) I wa g (fun q => q.2.elim fun _ q => q.elim fun _ q => (nomatch hd.symm.trans q)) sb
    have ns : ∀ {m}, s.heap.Ns env.locals m → h'.Ns env.locals m := fun z => z.at fun ob q => kc.keep _ _ q fun e => by
      obtain ⟨o', _, _, g', hd', _⟩ := z
      cases (e ▸ g').symm.trans g; cases hd.symm.trans hd'
    refine h _ (I.put kc wa (let ⟨o', g', _⟩ := hc'; ⟨o', g'⟩) (I.wl.2.imp fun _ => ns) (fun y b v q z => if e : b = a then e ▸ ⟨_, hc'⟩ else ⟨v, z.imp fun ob q => ⟨kc.keep _ _ q.1 e, q.2⟩⟩) (as kc fun o' q vs n z => by cases g.symm.trans q; cases hd.symm.trans z) fun j y kd t h1 h2 => ?_) kc.stable
    rw [gget_set hl] at h2
    by_cases e : j = k
    · rw [if_pos e] at h2
      cases h2; cases e; cases hk.symm.trans h1
      exact ⟨v, ⟨a, hl', hc'⟩, rs kc (fun o' q vs n z => by cases g.symm.trans q; cases hd.symm.trans z) hv⟩
    · rw [if_neg e] at h2
      refine (I.bd j y kd t h1 h2).imp fun u z => ⟨?_, rs kc (fun o' q vs n z => by cases g.symm.trans q; cases hd.symm.trans z) z.2⟩
      have cell : ∀ {b v}, env.cells.lookup y = some b → s.heap.IsCell b v → h'.IsCell b v := fun q z => z.imp fun ob w => ⟨kc.keep _ _ w.1 fun eb => e (I.es.idx (I.es.apart _ _ _ hl' (eb ▸ q) ▸ h1) hk), w.2⟩
      cases kd with
      | «local» => exact z.1.imp fun _ q => ⟨ns q.1, q.2⟩
      | cell => exact z.1.imp fun _ q => ⟨q.1, cell q.1 q.2⟩
      | free => exact z.1.imp fun _ q => ⟨q.1, cell q.1 q.2⟩
      | globalExplicit => exact z.1.elim
      | globalImplicit => exact z.1.elim
end
end
noncomputable section
open PySem PySem.W PyProof.Rows PyProof.Rows.LSm
section
variable {c : Cx} {P : Sp} {n m : Nat} {T T' T'' : TS} {s s' s'' : Shared} {X X₀ X₁ Y W B : Addr → Prop} {K₀ K₁ : Addr → Obj → Prop} {sc : Scp} {ow : List Str} {A : Around} {env : Env} {Γ Γ' : Gam} {d : PyData} {v : Value} {sl : Slot} {E : Value → Shared → Prop} {e : PySem.Expr} {h h' : Heap} {ac ac' : Option (Addr × List D)}
  {t : PySem.Expr} {I : Addr} {fp wr : List Addr} {items : List Value} {bd ds : List PyData} {S : Nat → Heap → Prop} {i j k : Int} {x : Str}
structure Iter (c : Cx) (t : PySem.Expr) (I : Addr) (fp wr : List Addr) (items : List Value) (bd ds : List PyData) (S : Nat → Heap → Prop) : Prop where
  sub : ∀ b ∈ wr, b ∈ fp
  frame : ∀ i h h', S i h → (∀ b ∈ fp, ∀ o, h.get? b = some o → h'.get? b = some o) → S i h'
  obj : ∀ i h, S i h → ∀ b ∈ wr, ∃ o, h.get? b = some o ∧ ¬ IsTup o ∧ ∀ v, o.data ≠ .cell v
  item : ∀ A s i d X (Q : Value → Shared → Prop) E, A.handled = none → ds[i]? = some d → S i s.heap → All2 (RdP s.heap X) items bd → (∀ b ∈ wr, X b) →
    (∀ v h' tk, S (i + 1) h' → (∀ b o, b ∉ wr → s.heap.get? b = some o → h'.get? b = some o) → RdP h' X v d → Q v { s with heap := h', toks := tk }) →
    wpAny c.M A (pyNext (.ref I)) (fun r s₁ => ∃ v, r = some v ∧ wpAny c.M A (letOwnedTupleGo t (.ref I) v) (fun _ s₂ => Q v s₂) E s₁) E s
  done : ∀ A s (Q : Option Value → Shared → Prop) E, A.handled = none → S ds.length s.heap → (∀ h' tk, (∀ b o, b ∉ wr → s.heap.get? b = some o → h'.get? b = some o) → Q none { s with heap := h', toks := tk }) → wpAny c.M A (pyNext (.ref I)) Q E s
  self : ∀ A s i (Q : Value → Shared → Prop) E, A.handled = none → S i s.heap → Q (.ref I) s → wpAny c.M A (pyIter (.ref I)) Q E s
theorem wr_stable (hw : ∀ b ∈ wr, X b) (ho : ∀ b ∈ wr, ∃ o, h.get? b = some o ∧ ¬ IsTup o ∧ ∀ v, o.data ≠ .cell v) (hk : ∀ b o, b ∉ wr → h.get? b = some o → h'.get? b = some o) : Stable X h h' := fun b o e q => hk b o (fun hb => by
  obtain ⟨o', e', n, _⟩ := ho b hb
  cases e.symm.trans e'
  exact n (q (hw b hb))) e
theorem Iter.walk {Pv : Nat → Value → Prop} (W : ∀ A : Around, A.handled = none → Walks c.prog c.w A I fp wr ds.length Pv S) (obj : ∀ i h, S i h → ∀ b ∈ wr, ∃ o, h.get? b = some o ∧ ¬ IsTup o ∧ ∀ v, o.data ≠ .cell v)
    (rd : ∀ i d v h X, ds[i]? = some d → Pv i v → All2 (RdP h X) items bd → RdP h X v d) (go : ∀ i A s v d X (Q : Unit → Shared → Prop) E, S i s.heap → RdP s.heap X v d → d ∈ ds → Q () s → wpAny c.M A (letOwnedTupleGo t (.ref I) v) Q E s) : Iter c t I fp wr items bd ds S where
  sub := (W {} rfl).sub
  frame := (W {} rfl).frame
  obj := obj
  item := fun A s i d X Q E hA hi hs hb hw hQ => (W A hA).item i s _ E (List.getElem?_eq_some_iff.mp hi).1 hs fun v h' tk hv hs' hk => by
    have r := (rd i d v _ X hi hv hb).stable (wr_stable hw (obj i _ hs) hk)
    exact ⟨v, rfl, go (i + 1) A _ v d X _ E hs' r (List.mem_of_getElem? hi) (hQ v h' tk hs' hk r)⟩
  done := fun A s Q E hA hs hQ => (W A hA).done s Q E hs hQ
  self := fun A s i Q E hA hs hQ => (W A hA).self i s Q E hs hQ
noncomputable def EvI (c : Cx) (n : Nat) (sc : Scp) (Γ : Gam) (T : TS) (t e : PySem.Expr) (ds : List PyData) (T' : TS) : Prop :=
  ∀ P A env s X E, Pre c P n sc A env s X Γ T → wpAny c.M A (eval e env) (fun x s₁ => wpAny c.M A (pyIter x) (fun it s₂ => ∃ I fp wr items bd S, it = .ref I ∧ Iter c t I fp wr items bd ds S ∧ S 0 s₂.heap ∧
    Out P T T' s s₂ ∧ SpOK c P s₂.heap X T' ∧ (∀ Y : Addr → Prop, (∀ b, Y b → X b ∨ b ∈ wr) → All2 (RdP s₂.heap Y) items bd) ∧ ∀ b ∈ fp, (∃ o, s₂.heap.get? b = some o) ∧ (b ∈ wr ∧ s.heap.get? b = none ∨ ¬ X b ∧ b ∉ wr)) E s₁) E s
noncomputable def TgtOK (t : PySem.Expr) (ds : List PyData) : Prop := (∀ it v, letOwnedTupleGo t it v = pure ()) ∨ (∃ elts k pos, t = .Tuple elts k pos) ∧ ∀ d ∈ ds, ∃ l, d = .tuple l
theorem EvI.list (hv : Ev c n sc Γ T e (.p (.list ds)) T') (ht : TgtOK t ds) : EvI c n sc Γ T t e ds T' := fun _ _ _ s X E p => hv.run p fun _ s₁ p1 o1 r1 => by
  obtain ⟨a, vs, m, sl, rfl, hn, g, r⟩ := RdP.inv r1
  have hl : Heap.IsList _ a vs := ⟨_, g, rfl, _, rfl⟩
  have kp : Keep s₁.heap (s₁.heap.push { cls := .type "list_iterator", data := .fields #[.ref a, .int 0 0] }) := fun _ _ e => Heap.get?_push_of_some _ e
  have len : vs.size = ds.length := by simpa using r.length
  have ne : a ≠ s₁.heap.objs.size := Nat.ne_of_lt (Heap.lt_size g)
  refine wpAny_pyIter_list hl ⟨_, _, _, vs.toList, ds, _, rfl, Iter.walk (fun A hA => len ▸ Walks.list (A := A) hA s₁.heap.objs.size a ne vs) (fun i h q b hb => ?_) (fun i d v h X h1 h2 h3 => ?_) (fun i A s v d X Q E h1 h2 h3 h4 => ?_),
    ⟨⟨_, Heap.get?_push_size _ rfl, rfl, rfl⟩, hl.push _⟩, o1.trans (Out.all (tk := s₁.toks) kp), p1.pc.sp.keeps kp,
    fun Y hY => r.imp fun _ _ z => (z.gro fun a w => (hY a w).imp_right fun w => none_of_size (Nat.le_of_eq (List.mem_singleton.mp w).symm)).stable fun b o e _ => kp b o e, fun b hb => ?_⟩
  · cases List.mem_singleton.mp hb
    obtain ⟨o, g, hc, hd⟩ := q.1
    exact ⟨o, g, fun z => absurd (Value.type.inj (hc.symm.trans z.1)) (by decide), fun v z => nomatch hd.symm.trans z⟩
  · obtain ⟨v', e1, r'⟩ := h3.get h1
    cases (show vs.toList[i]? = some v by simpa using h2).symm.trans e1
    exact r'
  · rcases ht with ht | ⟨⟨elts, k, pos, rfl⟩, ht⟩
    · exact wpAny_of_eq (ht _ _) h4
    · obtain ⟨l, rfl⟩ := ht d h3
      obtain ⟨_, _, _, _, rfl, _⟩ := RdP.inv h2
      exact wpAny_letOwnedTupleGo_listiter h1.1 h4
  · rcases List.mem_cons.mp hb with e | hb
    · exact ⟨⟨_, e ▸ Heap.get?_push_size _ rfl⟩, .inl ⟨List.mem_singleton.mpr e, e ▸ some_of_out o1 p1.pc.sp (none_of_size (Nat.le_refl _))⟩⟩
    · cases List.mem_singleton.mp hb
      exact ⟨⟨_, kp _ _ g⟩, .inr ⟨hn, fun z => ne (List.mem_singleton.mp z)⟩⟩
theorem EvI.str (hv : Ev c n sc Γ T e (.p (.str x)) T') (ht : ∀ it v, letOwnedTupleGo t it v = pure ()) : EvI c n sc Γ T t e (x.cps.toList.map fun q => .str ⟨#[q]⟩) T' := fun _ _ _ s X E p => hv.run p fun _ s₁ p1 o1 r1 => by
  obtain ⟨u, rfl⟩ := RdP.inv r1
  have main : ∀ (o : Obj) (S : Nat → Heap → Prop) (ty : String), ty ≠ "tuple" → (∀ A' : Around, A'.handled = none → Walks c.prog c.w A' s₁.heap.objs.size [s₁.heap.objs.size] [s₁.heap.objs.size] x.cps.size (SignAt x) S) → S 0 (s₁.heap.push o) →
      (∀ i h, S i h → h.IsStrIter s₁.heap.objs.size ty x u i) → ∃ I fp wr items bd S, Value.ref s₁.heap.objs.size = .ref I ∧ Iter c t I fp wr items bd (x.cps.toList.map fun q => .str ⟨#[q]⟩) S ∧ S 0 (s₁.heap.push o) ∧
        Out _ T T' s { s₁ with heap := s₁.heap.push o } ∧ SpOK c _ (s₁.heap.push o) X T' ∧ (∀ Y : Addr → Prop, (∀ b, Y b → X b ∨ b ∈ wr) → All2 (RdP (s₁.heap.push o) Y) items bd) ∧ ∀ b ∈ fp, (∃ ob, (s₁.heap.push o).get? b = some ob) ∧ (b ∈ wr ∧ s.heap.get? b = none ∨ ¬ X b ∧ b ∉ wr) := fun o S ty hty W h0 hS =>
    have kp : Keep s₁.heap (s₁.heap.push o) := fun _ _ e => Heap.get?_push_of_some _ e
    ⟨_, _, _, [], [], S, rfl, Iter.walk (fun A hA => by rw [List.length_map, Array.length_toList]; exact W A hA) (fun i h q b hb => by
      cases List.mem_singleton.mp hb
      obtain ⟨o, g, hc, hd⟩ := hS i h q
      exact ⟨o, g, fun z => hty (Value.type.inj (hc.symm.trans z.1)), fun v z => nomatch hd.symm.trans z⟩) (fun i d v h X h1 h2 _ => by
      obtain ⟨q, w, e, rfl⟩ := h2
      rw [List.getElem?_map, Array.getElem?_toList, e] at h1
      cases h1
      exact RdP.str _ _) (fun _ _ _ _ _ _ _ _ _ _ _ h4 => wpAny_of_eq (ht _ _) h4), h0, o1.trans (Out.all (tk := s₁.toks) kp), p1.pc.sp.keeps kp, fun _ _ => .nil,
      fun b hb => ⟨List.mem_singleton.mp hb ▸ (hS 0 _ h0).imp fun _ q => q.1, .inl ⟨hb, List.mem_singleton.mp hb ▸ some_of_out o1 p1.pc.sp (none_of_size (Nat.le_refl _))⟩⟩⟩
  cases ha : x.cps.all (· < 128)
  · exact wpAny_pyIter_wide ha (main _ _ "str_iterator" (by decide) (fun A' hA => Walks.strWide hA _ x u) ⟨_, Heap.get?_push_size _ rfl, rfl, rfl⟩ fun _ _ q => q)
  · exact wpAny_pyIter_ascii ha (main _ _ "str_ascii_iterator" (by decide) (fun A' hA => Walks.strAscii hA _ x u) ⟨_, Heap.get?_push_size _ rfl, rfl, rfl⟩ fun _ _ q => q)
noncomputable def RangeCall (c : Cx) (n : Nat) (as : List D) (i j k : Int) : Prop := ∀ P A s X T vs (Q : Value → Shared → Prop) E, PreC c P n A s X T → All2 (Rd c P s.heap X) vs as →
  (∀ r h' tk t u v, IsRange h' r i j k t u v → s.heap.get? r = none → Keep s.heap h' → Q (.ref r) { s with heap := h', toks := tk }) → wpAny c.M A (call (.type "range") vs) Q E s
theorem RangeCall.one : RangeCall c n [.p (.int j)] 0 j 1 := fun _ _ _ _ _ _ _ _ _ r h => by
  obtain ⟨v, vs, rfl, ra, r⟩ := r.cons_inv
  cases r
  obtain ⟨t, rfl⟩ := RdP.inv ra
  exact call_range_1 (h _ _ _ _ _ _ (IsRange.new ..) (none_of_size (Nat.le_refl _)) fun _ _ e => Heap.get?_push_of_some _ e)
theorem RangeCall.two : RangeCall c n [.p (.int i), .p (.int j)] i j 1 := fun _ _ _ _ _ _ _ _ _ r h => by
  obtain ⟨v, vs, rfl, ra, r⟩ := r.cons_inv
  obtain ⟨v, vs, rfl, rb, r⟩ := r.cons_inv
  cases r
  obtain ⟨t, rfl⟩ := RdP.inv ra
  obtain ⟨u, rfl⟩ := RdP.inv rb
  exact call_range_2 (h _ _ _ _ _ _ (IsRange.new ..) (none_of_size (Nat.le_refl _)) fun _ _ e => Heap.get?_push_of_some _ e)
theorem EvI.range {es : List PySem.Expr} {as : List D} {np pos : Pos} {N : Nat} (hx : GName c sc x (.type "range")) (hp : ∀ (env : Env) (pos : Pos), (backTo pos (starEach es env)).any (·.1) = false) (hg : EvL c n sc Γ T es as T') (hr : RangeCall c n as i j k)
    (hs : Builtin.Range.small i j k = true) (hn : Builtin.Range.rangeSize i j k = N) (ht : ∀ it v, letOwnedTupleGo t it v = pure ()) : EvI c n sc Γ T t (.Call (.Name x np) es [] pos) ((List.range N).map fun q : Nat => .int (i + (q : Int) * k)) T' := fun P _ env s X E p =>
  wpAny_Call_NameR (glob_load p hx.k hx.d hx.v (callWith_run (first := []) p Keep3.type hp hg fun s₁ vs p1 o1 r1 => hr _ _ _ _ _ _ _ _ p1.pc r1 fun r h' tk t u v q qn kp => by
    have g : ∀ o, Keep s₁.heap (h'.push o) := fun o b ob e => Heap.get?_push_of_some _ (kp b ob e)
    have hsz : s₁.heap.get? h'.objs.size = none := by
      cases e : s₁.heap.get? h'.objs.size with
      | none => rfl
      | some ob => exact absurd (Heap.lt_size (kp _ _ e)) (Nat.lt_irrefl _)
    refine wpAny_pyIter_range q hs ⟨_, _, _, [], [], _, rfl, Iter.walk (fun A hA => by rw [List.length_map, List.length_range]; exact Walks.range hA h'.objs.size i k N) (fun i h q b hb => ?_) (fun i d v h X h1 h2 _ => ?_) (fun _ _ _ _ _ _ _ _ _ _ _ h4 => wpAny_of_eq (ht _ _) h4),
      ?_, o1.trans (Out.all (tk := tk) (g _)), p1.pc.sp.keeps (g _), fun _ _ => .nil, fun b hb => ⟨⟨_, List.mem_singleton.mp hb ▸ Heap.get?_push_size _ rfl⟩, .inl ⟨hb, List.mem_singleton.mp hb ▸ some_of_out o1 p1.pc.sp hsz⟩⟩⟩
    · cases List.mem_singleton.mp hb
      exact ⟨_, (q : IsRangeIter _ _ _ _ _), fun z => absurd (Value.type.inj z.1) (by decide), fun v z => nomatch z⟩
    · obtain ⟨w, rfl⟩ := h2
      rw [List.getElem?_map] at h1
      obtain ⟨a, e1, rfl⟩ := Option.map_eq_some_iff.mp h1
      obtain ⟨hl, e2⟩ := List.getElem?_eq_some_iff.mp e1
      rw [List.getElem_range] at e2
      exact e2 ▸ RdP.int _ _
    · show IsRangeIter _ _ _ _ _
      rw [hn]
      simpa using Heap.get?_push_size h' rfl))
theorem EvI.enum {es : List PySem.Expr} {np pos : Pos} {elts : List PySem.Expr} {q : Nat} {tp : Pos} (hx : GName c sc x (.type "enumerate")) (hp : ∀ (env : Env) (pos : Pos), (backTo pos (starEach es env)).any (·.1) = false) (hg : EvL c n sc Γ T es [.p (.list ds)] T') :
    EvI c n sc Γ T (.Tuple elts q tp) (.Call (.Name x np) es [] pos) (ds.zipIdx.map fun p => .tuple [.int p.2, p.1]) T' := fun P _ env s X E p =>
  wpAny_Call_NameR (glob_load p hx.k hx.d hx.v (callWith_run (first := []) p Keep3.type hp hg fun s₁ vs p1 o1 r1 => by
    obtain ⟨v, vs, rfl, ra, r⟩ := r1.cons_inv
    cases r
    obtain ⟨a, vs, m, sl, rfl, hn, g, r⟩ := RdP.inv ra
    have hl : Heap.IsList _ a vs := ⟨_, g, rfl, _, rfl⟩
    have alt := Heap.lt_size g
    have len : vs.size = ds.length := by simpa using r.length
    refine call_enumerate_list hl fun h' he hit _ kp => wpAny_pyIter_enum he ?_
    have W := fun (A : Around) (hA : A.handled = none) => WalksT.enumerate (prog := c.prog) (w := c.w) hA (s₁.heap.objs.size + 1) s₁.heap.objs.size a (Nat.succ_ne_self _) (Nat.ne_of_lt (Nat.lt_succ_of_lt alt)) (Nat.ne_of_lt alt) vs
    have ob : ∀ (i : Nat) h, ((∃ old, IsEnum h (s₁.heap.objs.size + 1) s₁.heap.objs.size i old) ∧ h.IsListIter s₁.heap.objs.size a i ∧ h.IsList a vs) → ∀ b ∈ [s₁.heap.objs.size + 1, s₁.heap.objs.size], ∃ o, h.get? b = some o ∧ ¬ IsTup o ∧ ∀ v, o.data ≠ .cell v := fun i h q b hb => by
      rcases List.mem_cons.mp hb with rfl | hb
      · obtain ⟨_, q⟩ := q.1
        exact ⟨_, q, fun z => absurd (Value.type.inj z.1) (by decide), fun v z => nomatch z⟩
      · cases List.mem_singleton.mp hb
        obtain ⟨o, g, hc, hd⟩ := q.2.1
        exact ⟨o, g, fun z => absurd (Value.type.inj (hc.symm.trans z.1)) (by decide), fun v z => nomatch hd.symm.trans z⟩
    refine ⟨_, _, _, vs.toList, ds, _, rfl, ⟨(W {} rfl).sub, (W {} rfl).frame, ob, fun A s i d X Q E hA hi hs hb hw hQ => ?_, fun A s Q E hA hs hQ => (W A hA).done s Q E (by simpa [len] using hs) hQ, fun A s i Q E hA hs hQ => (W A hA).self i s Q E hs hQ⟩,
      ⟨⟨_, he⟩, hit, _, kp _ _ g, rfl, _, rfl⟩, o1.trans (Out.all (tk := s₁.toks) kp), p1.pc.sp.keeps kp,
      fun Y hY => r.imp fun _ _ z => (z.gro fun a w => (hY a w).imp_right fun w => (List.mem_cons.mp w).elim (fun e => none_of_size (Nat.le_trans (Nat.le_succ _) (Nat.le_of_eq e.symm))) fun w => none_of_size (Nat.le_of_eq (List.mem_singleton.mp w).symm)).stable fun b o e _ => kp b o e, fun b hb => ?_⟩
    · rw [List.getElem?_map] at hi
      obtain ⟨⟨pd, pi⟩, e1, rfl⟩ := Option.map_eq_some_iff.mp hi
      rw [List.getElem?_zipIdx] at e1
      obtain ⟨d', e2, e3⟩ := Option.map_eq_some_iff.mp e1
      cases e3
      refine (W A hA).item i s _ E (by rw [len]; exact (List.getElem?_eq_some_iff.mp e2).1) hs fun T vals h' tk hp hsz hT mid hk => ?_
      obtain ⟨t, x, h3, rfl⟩ := hp
      obtain ⟨v', e4, rv⟩ := hb.get e2
      cases (show vs.toList[i]? = some x by simpa using h3).symm.trans e4
      refine ⟨_, rfl, (W A hA).go _ _ _ i T _ _ E mid fun h'' hs' hk' => ?_⟩
      have kk : ∀ b o, b ∉ [s₁.heap.objs.size + 1, s₁.heap.objs.size] → s.heap.get? b = some o → h''.get? b = some o := fun b o hb e => hk' b o hb (hk b o hb e)
      obtain ⟨o, go, hc, nn, hd⟩ := hT
      refine hQ _ h'' tk hs' kk (RdP.tuple (hk' T o ((W A hA).apart _ _ _ mid) go) hc hd ?_)
      rw [Nat.zero_add]
      exact .cons (RdP.int _ _) (.cons (rv.stable (wr_stable hw (ob i _ hs) kk)) .nil)
    · have n1 := some_of_out o1 p1.pc.sp (none_of_size (Nat.le_succ s₁.heap.objs.size))
      have n2 := some_of_out o1 p1.pc.sp (none_of_size (Nat.le_refl s₁.heap.objs.size))
      rcases List.mem_cons.mp hb with rfl | hb
      · exact ⟨⟨_, he⟩, .inl ⟨List.mem_cons_self .., n1⟩⟩
      · rcases List.mem_cons.mp hb with rfl | hb
        · exact ⟨hit.imp fun _ q => q.1, .inl ⟨List.mem_cons_of_mem _ (List.mem_cons_self ..), n2⟩⟩
        · cases List.mem_singleton.mp hb
          exact ⟨⟨_, kp _ _ g⟩, .inr ⟨hn, fun z => (List.mem_cons.mp z).elim (Nat.ne_of_lt (Nat.lt_succ_of_lt alt)) fun z => Nat.ne_of_lt alt (List.mem_singleton.mp z)⟩⟩))
end
end
noncomputable section
open PySem PySem.W PyProof.Rows PyProof.Rows.LSm
section
variable {c : Cx} {P : Sp} {n m : Nat} {T T' T'' T₁ : TS} {s s' s'' : Shared} {X X₀ X₁ Y W B : Addr → Prop} {K₀ K₁ : Addr → Obj → Prop} {sc sc' : Scp} {ow ow' : List Str} {A : Around} {env : Env} {Γ Γ' Γ₁ : Gam} {d : PyData} {dd : D} {v : Value} {sl : Slot} {E : Value → Shared → Prop} {e elt test iter : PySem.Expr} {h h' : Heap} {ac ac' : Option (Addr × List D)} {RP : Shared → (Addr → Prop) → Prop}
  {t : PySem.Expr} {I : Addr} {fp wr : List Addr} {items : List Value} {bd ds : List PyData} {S : Nat → Heap → Prop} {i j k : Nat} {x y : Str} {pos : Pos} {gens : List Comprehension} {scope : Scope} {ifs : List PySem.Expr} {dep : Nat} {out os : List D} {kd kd' : NameKind}
noncomputable def Tg (c : Cx) (n : Nat) (sc : Scp) (ow : List Str) (t : PySem.Expr) (Γ : Gam) (d : PyData) (Γ' : Gam) : Prop :=
  ∀ P A env s X₀ W K₀ RP ac T v (Q : Unit → Shared → Prop) E, Inv c P n sc ow A env s X₀ W K₀ RP ac Γ T → RdP s.heap (Un X₀ W) v d → (∀ s', Inv c P n sc ow A env s' X₀ W K₀ RP ac Γ' T → Q () s') → wpAny c.M A (assign t env v) Q E s
noncomputable def OwnK (kd : NameKind) (x : Str) (ow : List Str) : Prop := kd = .local ∨ kd = .cell ∧ x ∈ ow
theorem Tg.name (hk : sc[k]? = some (x, kd)) (hl : k < Γ.length) (ho : OwnK kd x ow) : Tg c n sc ow (.Name x pos) Γ d (Γ.set k (some (.v (.p d)))) := fun _ _ _ _ _ _ _ _ _ _ _ _ _ I r h =>
  wpAny_assign_Name (I.store hk hl ho (sl := .v (.p d)) r fun s' I' _ => h s' I')
theorem Inv.all {tk : Nat} (I : Inv c P n sc ow A env s X₀ W K₀ RP ac Γ T) (kp : Keep s.heap h) : Inv c P n sc ow A env { s with heap := h, toks := tk } X₀ W K₀ RP ac Γ T := I.out (Out.all kp) (I.pc.sp.keeps kp)
theorem Tg.pair {d₁ d₂ : PyData} {q : Nat} {p1 p2 : Pos} (hk : sc[j]? = some (x, kd)) (hl : j < Γ.length) (ho : OwnK kd x ow) (hk' : sc[k]? = some (y, kd')) (hl' : k < Γ.length) (ho' : OwnK kd' y ow)
    (he : ∀ env, (assignEach [.Name x p1, .Name y p2] env) = [(false, assign (.Name x p1) env), (false, assign (.Name y p2) env)]) : Tg c n sc ow (.Tuple [.Name x p1, .Name y p2] q pos) Γ (.tuple [d₁, d₂]) ((Γ.set j (some (.v (.p d₁)))).set k (some (.v (.p d₂)))) := fun _ _ env s _ _ _ _ _ _ _ _ _ I r h => by
  obtain ⟨a, o, vs, m, rfl, g, hc, hd, r⟩ := RdP.inv r
  obtain ⟨v1, vs1, e1, r1, r⟩ := r.cons_inv
  obtain ⟨v2, vs2, e2, r2, r⟩ := r.cons_inv
  cases r
  cases e2
  obtain ⟨l⟩ := vs
  cases e1
  refine wpAny_assign_Tuple I.pc.a.1 ⟨o, g, hc, m, hd⟩ (by rw [he]; rfl) (by rw [he]; rfl) fun h' hx => ?_
  have kp : Keep s.heap h' := fun b ob e => hx b ob (Nat.ne_of_lt (Heap.lt_size e)) e
  rw [he]
  refine assignInOrder_cons (wpAny_assign_Name ((I.all (tk := s.toks) kp).store hk hl ho (sl := .v (.p d₁)) (r1.stable fun b o e _ => kp b o e) fun s' I' st => ?_))
  refine assignInOrder_cons (wpAny_assign_Name (I'.store hk' (by rw [List.length_set]; exact hl') ho' (sl := .v (.p d₂)) ((r2.stable fun b o e _ => kp b o e).stable st) fun s'' I'' _ => assignInOrder_nil (h s'' I'')))
noncomputable def compRest (elt : PySem.Expr) (gens : List Comprehension) (scope : Scope) (pos : Pos) (dep : Nat) (acc : Value) (env : Env) (k : Sem Fin) : Sem Fin :=
  match gens[dep + 1]? with
  | some g' => do
    let x ← eval g'.iter env
    standAt g'.iter.pos
    let x ← if g'.is_async != 0 then foldedIterable g'.iter x else foldedSetIterable g'.iter env x
    let _ ← runOwn (.compStart (.ListComp elt gens scope pos) (dep + 1) (← holding [x] (if g'.is_async != 0 then asyncIter x else pyIter x)) acc env) env
    k
  | none => (do let _ ← call (.builtin "list.append") [acc, ← eval elt env] : Sem Unit) >>= fun _ => k
noncomputable abbrev ifsGo (ifs : List PySem.Expr) (env : Env) : Sem Bool := forIn ifs true fun c r => if r = true then do let ok ← isTrue c env (eval c env); pure (ForInStep.yield ok) else pure (ForInStep.yield r)
theorem compTurn_at (it acc : Value) (hg : gens[dep]? = some ⟨t, iter, ifs, 0⟩) :
    compTurn (.ListComp elt gens scope pos) dep it acc env = (do
      standAt iter.pos
      match ← pyNext it with
      | none => pure (.done .next)
      | some v =>
        letOwnedTupleGo t it v
        assign t env v
        let ok ← ifsGo ifs env
        if ok then compRest elt gens scope pos dep acc env (again (.compLoop (.ListComp elt gens scope pos) dep it acc env))
        else again (.compLoop (.ListComp elt gens scope pos) dep it acc env)) := by
  unfold compTurn compRest
  dsimp only
  rw [hg]
  rfl
noncomputable def Tn (c : Cx) (n : Nat) (sc : Scp) (ow : List Str) (elt : PySem.Expr) (gens : List Comprehension) (scope : Scope) (pos : Pos) (dep : Nat) (t : PySem.Expr) (ifs : List PySem.Expr) (Γ : Gam) (T : TS) (d : PyData) (out : List D) (T' : TS) : Prop :=
  ∀ P A env s X₀ W K₀ RP acc l v k (Q : Fin → Shared → Prop) E, Inv c P n sc ow A env s X₀ W K₀ RP (some (acc, l)) Γ T → RdP s.heap (Un X₀ W) v d → l.length + out.length ≤ 1000000 → (∀ s', Inv c P n sc ow A env s' X₀ W K₀ RP (some (acc, l ++ out)) Γ T' → wpAny c.M A k Q E s') →
    wpAny c.M A (assign t env v) (fun _ s₂ => wpAny c.M A (ifsGo ifs env) (fun ok s₃ => if ok = true then wpAny c.M A (compRest elt gens scope pos dep (.ref acc) env k) Q E s₃ else wpAny c.M A k Q E s₃) E s₂) E s
noncomputable def Rs (c : Cx) (n : Nat) (sc : Scp) (ow : List Str) (elt : PySem.Expr) (gens : List Comprehension) (scope : Scope) (pos : Pos) (dep : Nat) (Γ : Gam) (T : TS) (out : List D) (T' : TS) : Prop :=
  ∀ P A env s X₀ W K₀ RP acc l k (Q : Fin → Shared → Prop) E, Inv c P n sc ow A env s X₀ W K₀ RP (some (acc, l)) Γ T → l.length + out.length ≤ 1000000 → (∀ s', Inv c P n sc ow A env s' X₀ W K₀ RP (some (acc, l ++ out)) Γ T' → wpAny c.M A k Q E s') →
    wpAny c.M A (compRest elt gens scope pos dep (.ref acc) env k) Q E s
inductive Steps (c : Cx) (n : Nat) (sc : Scp) (ow : List Str) (elt : PySem.Expr) (gens : List Comprehension) (scope : Scope) (pos : Pos) (dep : Nat) (t : PySem.Expr) (ifs : List PySem.Expr) (Γ : Gam) : TS → List PyData → List D → TS → Prop
  | nil (T : TS) : Steps c n sc ow elt gens scope pos dep t ifs Γ T [] [] T
  | cons (T T₁ T' : TS) (d : PyData) (ds : List PyData) (out os : List D) : Tn c n sc ow elt gens scope pos dep t ifs Γ T d out T₁ → Steps c n sc ow elt gens scope pos dep t ifs Γ T₁ ds os T' → Steps c n sc ow elt gens scope pos dep t ifs Γ T (d :: ds) (out ++ os) T'
theorem Steps.map {f : PyData → List D} (h : ∀ d ∈ ds, Tn c n sc ow elt gens scope pos dep t ifs Γ T d (f d) T) : Steps c n sc ow elt gens scope pos dep t ifs Γ T ds (ds.flatMap f) T := by
  induction ds with
  | nil => exact .nil _
  | cons d ds ih =>
    rw [List.flatMap_cons]
    exact .cons _ _ _ _ _ _ _ (h d (List.mem_cons_self ..)) (ih fun d m => h d (List.mem_cons_of_mem _ m))
noncomputable def Le (Γ Γ' : Gam) : Prop := ∀ k sl, gget Γ k = some sl → gget Γ' k = some sl
theorem Tn.mk0 (tg : Tg c n sc ow t Γ d Γ₁) (hw : Le Γ Γ₁) (r : Rs c n sc ow elt gens scope pos dep Γ₁ T out T') : Tn c n sc ow elt gens scope pos dep t [] Γ T d out T' := fun _ _ _ _ _ _ _ _ _ _ _ _ _ _ I rd hl hk =>
  tg _ _ _ _ _ _ _ _ _ _ _ _ _ I rd fun s' I' => wpAny_tests_nil (r _ _ _ _ _ _ _ _ _ _ _ _ _ I' hl fun s'' q => hk s'' (q.weak hw fun _ _ z => z))
theorem Tn.mk1 {b : Bool} (tg : Tg c n sc ow t Γ d Γ₁) (hw : Le Γ Γ₁) (ht : Tr c n sc (hide Γ₁) T test b T₁) (r : b = true → Rs c n sc ow elt gens scope pos dep Γ₁ T₁ out T') (r' : b = false → out = [] ∧ T' = T₁) : Tn c n sc ow elt gens scope pos dep t [test] Γ T d out T' := fun _ _ _ _ _ _ _ _ _ _ _ _ _ _ I rd hl hk =>
  tg _ _ _ _ _ _ _ _ _ _ _ _ _ I rd fun s' I' => wpAny_tests_one (I'.tr ht fun s'' I'' => by
    cases b with
    | true => exact r rfl _ _ _ _ _ _ _ _ _ _ _ _ _ I'' hl fun s'' q => hk s'' (q.weak hw fun _ _ z => z)
    | false =>
      obtain ⟨rfl, rfl⟩ := r' rfl
      rw [List.append_nil] at hk
      exact hk _ (I''.weak hw fun _ _ z => z))
theorem Inv.append {acc : Addr} {l : List D} {Q : Value → Shared → Prop} (I : Inv c P n sc ow A env s X₀ W K₀ RP (some (acc, l)) Γ T) (r : Rd c P s.heap (Un X₀ W) v dd) (hl : l.length ≤ 1000000) (hn : ∀ k sl, gget Γ k = some sl → ∃ d, sl = .v d)
    (h : ∀ s', Inv c P n sc ow A env s' X₀ W K₀ RP (some (acc, l ++ [dd])) Γ T → Q .none s') : wpAny c.M A (call (.builtin "list.append") [.ref acc, v]) Q E s := by
  obtain ⟨wa, vs, m, g, q⟩ := I.ac _ rfl
  have len := q.length
  simp only [Array.length_toList] at len
  refine wpAny_list_append_plain ⟨m, g⟩ (fun h' hp sb => ?_) (by rw [sizeLine_eq]; (first | (simp +arith only; done) | lia | omega))
  obtain ⟨m', g'⟩ := hp
  have kc := same_chg (tk := s.toks) I wa g (fun z => absurd (Value.type.inj z.1) (by decide)) sb
  have kk : ∀ {b o}, s.heap.get? b = some o → (∀ vs n, o.data ≠ .seq vs n) → h'.get? b = some o := fun e f => kc.keep _ _ e fun hb => by cases (hb ▸ e).symm.trans g; exact f _ _ rfl
  have cell : ∀ {a v}, s.heap.IsCell a v → h'.IsCell a v := fun z => z.imp fun ob q => ⟨kk q.1 fun _ _ f => (nomatch q.2.symm.trans f), q.2⟩
  have ns : ∀ {m}, s.heap.Ns env.locals m → h'.Ns env.locals m := fun z => z.at fun ob q => kk q fun _ _ f => by
    obtain ⟨_, _, _, g', hd, _⟩ := z
    cases g'.symm.trans q
    cases hd.symm.trans f
  refine h _ (I.put kc wa ⟨_, g'⟩ (I.wl.2.imp fun _ => ns) (fun _ _ v _ z => ⟨v, cell z⟩) (fun q' e => ?_) fun j y kd sl h1 h2 => ?_)
  · cases e
    refine ⟨wa, _, _, g', ?_⟩
    rw [Array.toList_push]
    exact (q.imp fun _ _ z => z.stable kc.stable).append (.cons (r.stable kc.stable) .nil)
  · obtain ⟨d, rfl⟩ := hn j sl h2
    refine (I.bd j y kd _ h1 h2).imp fun u z => ⟨?_, Rd.stable z.2 kc.stable⟩
    cases kd with
    | «local» => exact z.1.imp fun _ q => ⟨ns q.1, q.2⟩
    | cell => exact z.1.imp fun _ q => ⟨q.1, cell q.2⟩
    | free => exact z.1.imp fun _ q => ⟨q.1, cell q.2⟩
    | globalExplicit => exact z.1.elim
    | globalImplicit => exact z.1.elim
theorem Rs.emit (hg : gens[dep + 1]? = none) (hh : hide Γ = Γ) (h : Ev c n sc Γ T elt dd T') : Rs c n sc ow elt gens scope pos dep Γ T [dd] T' := fun _ _ _ _ _ _ _ _ _ l _ _ _ I hl hk => by
  unfold compRest
  rw [hg]
  refine wpAny_bind (wpAny_bind (I.ev (hh.symm ▸ h) fun v s' I' r => wpAny_bind (I'.append r (by simp at hl; (first | (simp +arith only; done) | lia | omega)) (fun k sl e => ?_) fun s'' I'' => wpAny_pure (hk _ I''))))
  rw [← hh, hide, gget_map] at e
  obtain ⟨sl', _, e2⟩ := Option.bind_eq_some_iff.mp e
  cases sl' with
  | v d => cases e2; exact ⟨d, rfl⟩
  | own l => cases e2
  | own2 l => cases e2
end
end
noncomputable section
open PySem PySem.W PyProof.Rows PyProof.Rows.LSm
section
variable {c : Cx} {P : Sp} {n m : Nat} {T T' T'' T₁ : TS} {s s' s'' : Shared} {X X₀ X₁ Y W B : Addr → Prop} {K₀ K₁ : Addr → Obj → Prop} {sc sc' : Scp} {ow ow' : List Str} {A : Around} {env : Env} {Γ Γ' Γ₁ : Gam} {d : PyData} {dd : D} {v : Value} {sl : Slot} {E : Value → Shared → Prop} {e elt test iter : PySem.Expr} {h h' : Heap} {ac ac' : Option (Addr × List D)} {RP : Shared → (Addr → Prop) → Prop}
  {t : PySem.Expr} {I : Addr} {fp wr : List Addr} {items : List Value} {bd ds : List PyData} {S : Nat → Heap → Prop} {i j k : Nat} {x y : Str} {pos : Pos} {gens : List Comprehension} {scope : Scope} {ifs : List PySem.Expr} {dep : Nat} {out os : List D} {kd kd' : NameKind}
structure Held (c : Cx) (P : Sp) (I : Addr) (fp wr : List Addr) (items : List Value) (bd : List PyData) (X₀ W : Addr → Prop) (K₀ : Addr → Obj → Prop) (T : TS) (s : Shared) : Prop where
  rd : All2 (RdP s.heap (Un X₀ W)) items bd
  hw : ∀ b ∈ wr, X₀ b ∧ c.h₀.get? b = none ∧ ∀ o, ¬ K₀ b o
  hf : ∀ b ∈ fp, (∃ o, s.heap.get? b = some o) ∧ ¬ W b ∧ (b = P.τ → T.tape = none) ∧ (b = P.dx → T.self = none)
noncomputable def KF (K₀ : Addr → Obj → Prop) (fp : List Addr) (h : Heap) (b : Addr) (o : Obj) : Prop := K₀ b o ∨ b ∈ fp ∧ h.get? b = some o
theorem Iter.next (It : Iter c t I fp wr items bd ds S) (J : Inv c P n sc ow A env s X₀ W K₀ RP ac Γ T) (H : Held c P I fp wr items bd X₀ W K₀ T s) (hS : S i s.heap) (hi : ds[i]? = some d) {Q : Value → Shared → Prop}
    (h : ∀ v s', Inv c P n sc ow A env s' X₀ W (KF K₀ fp s'.heap) RP ac Γ T → Held c P I fp wr items bd X₀ W K₀ T s' → S (i + 1) s'.heap → RdP s'.heap (Un X₀ W) v d → Q v s') :
    wpAny c.M A (pyNext (.ref I)) (fun r s₁ => ∃ v, r = some v ∧ wpAny c.M A (letOwnedTupleGo t (.ref I) v) (fun _ s₂ => Q v s₂) E s₁) E s :=
  It.item A s i d (Un X₀ W) _ E J.pc.a.1 hi hS H.rd (fun b hb => .inl (H.hw b hb).1) fun v h' tk hS' kp r => by
    have ob := It.obj i _ hS
    have fpw : ∀ b ∈ wr, (b = P.τ → T.tape = none) ∧ (b = P.dx → T.self = none) := fun b hb => (H.hf b (It.sub b hb)).2.2
    have kc : Chg c P (· ∈ wr) X₀ T s { s with heap := h', toks := tk } := ⟨⟨_, _, rfl⟩, fun b o e hb => kp b o hb e, fun b hb => ⟨(H.hw b hb).1, (H.hw b hb).2.1, fpw b hb⟩, fun b o hb e => by
      obtain ⟨o', e', z, _⟩ := ob b hb
      cases e.symm.trans e'
      exact z⟩
    have al : ∀ b ∈ fp, ∃ o, h'.get? b = some o := fun b hb => (Classical.em (b ∈ wr)).elim (fun z => (It.obj _ _ hS' b z).imp fun _ q => q.1) fun z => (H.hf b hb).1.imp fun o e => kp b o z e
    have J' := J.chg kc (fun b o z hb => (H.hw b hb).2.2 o z) (fun b o v hb e => by
      obtain ⟨o', e', _, z⟩ := ob b hb
      cases e.symm.trans e'
      exact z v) (fun a z => ⟨z, fun hb => (It.obj _ _ hS' a hb).imp fun _ q => q.1⟩) J.sx
    have st : Stable (Un X₀ W) s.heap h' := wr_stable (fun b hb => .inl (H.hw b hb).1) ob kp
    exact h v _ ⟨J'.pc, J'.es, J'.cx, J'.wx, J'.sx, J'.wl, J'.cw, fun b o z => z.elim (J'.kp b o) fun z => ⟨z.2, (H.hf b z.1).2⟩, J'.rc, J'.rp, J'.ac, J'.bd⟩ ⟨H.rd.imp fun _ _ z => z.stable st, H.hw, fun b hb => ⟨al b hb, (H.hf b hb).2⟩⟩ hS' r
theorem Iter.bind {α : Type} (It : Iter c t I fp wr items bd ds S) (J : Inv c P n sc ow A env s X₀ W K₀ RP ac Γ T) (H : Held c P I fp wr items bd X₀ W K₀ T s) (hS : S i s.heap) (hi : ds[i]? = some d) {F : α → Shared → Prop} {f : Option Value → Sem α} {g : Value → Sem α}
    (hf : ∀ v, f (some v) = (letOwnedTupleGo t (.ref I) v >>= fun _ => g v))
    (h : ∀ v s', Inv c P n sc ow A env s' X₀ W (KF K₀ fp s'.heap) RP ac Γ T → Held c P I fp wr items bd X₀ W K₀ T s' → S (i + 1) s'.heap → RdP s'.heap (Un X₀ W) v d → wpAny c.M A (g v) F E s') : wpAny c.M A (pyNext (.ref I) >>= f) F E s :=
  wpAny_bind (wpAny_mono (It.next J H hS hi h) (fun r s₁ q => by
    obtain ⟨v, rfl, q⟩ := q
    rw [hf]
    exact wpAny_bind q) fun _ _ e => e)
theorem Clo.rd : Clo fun s X => All2 (RdP s.heap X) items bd := fun _ _ _ _ q _ st hY => q.imp fun _ _ z =>
  ((z.gro (Y := fun a => _ ∨ _) fun a w => w.elim .inl (hY a)).stable fun b o e k => st b o e fun x => k (.inl x)).anti fun _ w => .inr w
theorem Clo.and {R : Shared → (Addr → Prop) → Prop} (a : Clo RP) (b : Clo R) : Clo fun h X => RP h X ∧ R h X := fun _ _ _ _ q sm st hY => ⟨a _ _ _ _ q.1 sm st hY, b _ _ _ _ q.2 sm st hY⟩
theorem Inv.rpAnd {R : Shared → (Addr → Prop) → Prop} (J : Inv c P n sc ow A env s X₀ W K₀ RP ac Γ T) (b : Clo R) (r : R s (Un X₀ W)) : Inv c P n sc ow A env s X₀ W K₀ (fun h X => RP h X ∧ R h X) ac Γ T := { J with rc := J.rc.and b, rp := ⟨J.rp, r⟩ }
theorem Inv.rpFst {R : Shared → (Addr → Prop) → Prop} (J : Inv c P n sc ow A env s X₀ W K₀ (fun h X => RP h X ∧ R h X) ac Γ T) (a : Clo RP) : Inv c P n sc ow A env s X₀ W K₀ RP ac Γ T := { J with rc := a, rp := J.rp.1 }
theorem Iter.last (It : Iter c t I fp wr items bd ds S) (J : Inv c P n sc ow A env s X₀ W K₀ RP ac Γ T) (H : Held c P I fp wr items bd X₀ W K₀ T s) (hS : S ds.length s.heap) (hx : ∀ a, X₁ a → X₀ a ∧ a ∉ wr) (hx' : ∀ a, X₀ a → X₁ a ∨ a ∈ wr)
    {Q : Option Value → Shared → Prop} (h : ∀ s', Inv c P n sc ow A env s' X₁ W K₀ RP ac Γ T → Q none s') : wpAny c.M A (pyNext (.ref I)) Q E s :=
  It.done A s Q E J.pc.a.1 hS fun h' tk kp => by
    have ob := It.obj _ _ hS
    exact h _ (J.chg (B := (· ∈ wr)) ⟨⟨_, _, rfl⟩, fun b o e hb => kp b o hb e, fun b hb => ⟨(H.hw b hb).1, (H.hw b hb).2.1, (H.hf b (It.sub b hb)).2.2⟩, fun b o hb e => by
      obtain ⟨o', e', z, _⟩ := ob b hb
      cases e.symm.trans e'
      exact z⟩ (fun b o z hb => (H.hw b hb).2.2 o z) (fun b o v hb e => by
      obtain ⟨o', e', _, z⟩ := ob b hb
      cases e.symm.trans e'
      exact z v) (fun a z => ⟨(hx a z).1, fun hb => absurd hb (hx a z).2⟩)
      ⟨J.sx.1.elim .inl fun z => (hx' _ z).elim .inr fun z => .inl ((H.hf _ (It.sub _ z)).2.2.1 rfl), J.sx.2.elim .inl fun z => (hx' _ z).elim .inr fun z => .inl ((H.hf _ (It.sub _ z)).2.2.2 rfl)⟩)
theorem Held.step {s₁ : Shared} (H : Held c P I fp wr items bd X₀ W K₀ T s) (J : Inv c P n sc ow A env s₁ X₀ W (KF K₀ fp s.heap) RP ac Γ T') (rd : All2 (RdP s₁.heap (Un X₀ W)) items bd) : Held c P I fp wr items bd X₀ W K₀ T' s₁ :=
  ⟨rd, H.hw, fun b hb => (H.hf b hb).1.elim fun o e => have z := J.kp b o (.inr ⟨hb, e⟩); ⟨⟨o, z.1⟩, z.2⟩⟩
theorem compStart_at {it acc : Value} {R : Result → Shared → Prop} (hg : gens[dep]? = some ⟨t, iter, ifs, 0⟩) (hi : ∀ Q E, Q it s → wpAny c.M A (pyIter it) Q E s) (h : codeAny c.M A (.compLoop (.ListComp elt gens scope pos) dep it acc env) R s) :
    codeAny c.M A (.compStart (.ListComp elt gens scope pos) dep it acc env) R s := by
  refine codeAny_of_tree ?_
  show wpAny _ _ ((compStart (.ListComp elt gens scope pos) dep it acc env).onRaise (fun x => do noteFrame x env; standAt theWindowsPlace)) _ _ s
  refine wpAny_notedAt ?_
  unfold compStart
  rw [show clausesOf (.ListComp elt gens scope pos) = gens from rfl, hg]
  show wpAny _ _ (ask >>= _) _ _ s
  refine wpAny_bind (wpAny_askSetting (wpAny_ite ?_))
  split
  · first
      | exact wpAny_bind (wpAny_pure (wpAny_pure (And.intro rfl h)))
      | exact wpAny_pure (And.intro rfl h)
  · first
      | exact wpAny_bind (wpAny_rule (wpAny_bind (wpAny_standAt (wpAny_bind (hi _ _ (wpAny_pure (And.intro rfl h)))))))
      | (refine wpAny_bind (wpAny_rule ?_); show wpAny _ _ (standAt iter.pos >>= _) _ _ s; exact wpAny_bind (wpAny_standAt (wpAny_bind (hi _ _ (wpAny_pure (And.intro rfl h))))))
theorem turn_do {acc : Value} {k : Sem Fin} {F : Fin → Shared → Prop} (h : wpAny c.M A (assign t env v) (fun _ s₂ => wpAny c.M A (ifsGo ifs env) (fun ok s₃ => if ok = true then wpAny c.M A (compRest elt gens scope pos dep acc env k) F E s₃ else wpAny c.M A k F E s₃) E s₂) E s) :
    wpAny c.M A (do assign t env v; let ok ← ifsGo ifs env; if ok then compRest elt gens scope pos dep acc env k else k) F E s :=
  wpAny_bind (wpAny_mono h (fun _ _ q => wpAny_bind (wpAny_mono q (fun ok _ q => by cases ok <;> exact q) fun _ _ e => e)) fun _ _ e => e)
theorem compLoop_at {acc : Addr} {l : List D} (hg : gens[dep]? = some ⟨t, iter, ifs, 0⟩) (It : Iter c t I fp wr items bd ds S) (hx : ∀ a, X₁ a → X₀ a ∧ a ∉ wr) (hx' : ∀ a, X₀ a → X₁ a ∨ a ∈ wr)
    (hl : l.length + out.length ≤ 1000000)
    (J : Inv c P n sc ow A env s X₀ W K₀ RP (some (acc, l)) Γ T) (H : Held c P I fp wr items bd X₀ W K₀ T s) (hS : S 0 s.heap) (st : Steps c n sc ow elt gens scope pos dep t ifs Γ T ds out T') :
    codeAny c.M A (.compLoop (.ListComp elt gens scope pos) dep (.ref I) (.ref acc) env) (fun r s' => r = .ok .next ∧ Inv c P n sc ow A env s' X₁ W K₀ RP (some (acc, l ++ out)) Γ T') s := by
  refine codeAny_loop rfl (fun k s => ∃ i T l' ds' os, k = ds'.length ∧ ds.drop i = ds' ∧ l' ++ os = l ++ out ∧ Inv c P n sc ow A env s X₀ W K₀ RP (some (acc, l')) Γ T ∧ Held c P I fp wr items bd X₀ W K₀ T s ∧ S i s.heap ∧
    Steps c n sc ow elt gens scope pos dep t ifs Γ T ds' os T' ∧ i ≤ ds.length) (fun k s q => ?_) ds.length ⟨0, T, l, ds, out, rfl, rfl, rfl, J, H, hS, st, Nat.zero_le _⟩
  show wpAny _ A ((compTurn (.ListComp elt gens scope pos) dep (.ref I) (.ref acc) env).onRaise (fun x => do noteFrame x env; theTreesLotGoes x)) _ _ s
  refine wpAny_noted ?_
  rw [compTurn_at _ _ hg]
  refine wpAny_bind (wpAny_standAt ?_)
  obtain ⟨i, T₀, l', ds', os, rfl, hd, hlo, J, H, hS, st, hi⟩ := q
  cases st with
  | nil =>
    have : i = ds.length := Nat.le_antisymm hi (List.drop_eq_nil_iff.mp hd)
    subst this
    rw [List.append_nil] at hlo
    subst hlo
    exact wpAny_bind (It.last J H hS hx hx' fun s' J' => wpAny_pure ⟨rfl, J'⟩)
  | cons _ T₁ _ d ds' o os tn st =>
    have hi' : ds[i]? = some d := by rw [← List.head?_drop, hd]; rfl
    refine It.bind J H hS hi' (fun _ => rfl) fun v s₁ J₁ H₁ hS₁ r => ?_
    have len := congrArg List.length hlo
    simp only [List.length_append] at len
    exact turn_do (tn _ _ _ _ _ _ _ _ acc l' v (again (.compLoop (.ListComp elt gens scope pos) dep (.ref I) (.ref acc) env)) _ _ (J₁.rpAnd Clo.rd H₁.rd) r (by (first | (simp +arith only; done) | lia | omega)) fun s₂ J₂ =>
      wpAny_pure ⟨rfl, ds'.length, Nat.lt_succ_self _, i + 1, T₁, l' ++ o, ds', os, rfl, by rw [← List.tail_drop, hd]; rfl, by rw [List.append_assoc]; exact hlo, (J₂.weak (fun _ _ z => z) fun _ _ z => .inl z).rpFst J.rc, H₁.step J₂ J₂.rp.2,
        It.frame _ _ _ hS₁ fun b hb ob e => (J₂.kp b ob (.inr ⟨hb, e⟩)).1, st, (List.getElem?_eq_some_iff.mp hi').1⟩)
theorem iter_start {J₀ : Inv c P n sc ow A env s X₀ W K₀ RP ac Γ T} {s₁ : Shared} (It : Iter c t I fp wr items bd ds S) (o : Out P T T' s s₁) (q : SpOK c P s₁.heap (Un X₀ W) T') (hr : ∀ Y : Addr → Prop, (∀ b, Y b → Un X₀ W b ∨ b ∈ wr) → All2 (RdP s₁.heap Y) items bd)
    (hf : ∀ b ∈ fp, (∃ o, s₁.heap.get? b = some o) ∧ (b ∈ wr ∧ s.heap.get? b = none ∨ ¬ Un X₀ W b ∧ b ∉ wr)) : Inv c P n sc ow A env s₁ (fun b => X₀ b ∨ b ∈ wr) W K₀ RP ac Γ T' ∧ Held c P I fp wr items bd (fun b => X₀ b ∨ b ∈ wr) W K₀ T' s₁ ∧ ∀ a, X₀ a → (X₀ a ∨ a ∈ wr) ∧ a ∉ wr := by
  have nw : ∀ b ∈ wr, s.heap.get? b = none := fun b hb => (hf b (It.sub b hb)).2.elim And.right fun z => absurd hb z.2
  have nx : ∀ b ∈ fp, ¬ Un X₀ W b := fun b hb z => (hf b hb).2.elim (fun w => (J₀.pc.xlt b z).elim fun _ g => (nomatch w.2.symm.trans g)) fun w => w.1 z
  have J := J₀.outX o q (Y := fun b => X₀ b ∨ b ∈ wr) (fun _ z => .inl z) (fun _ z => z) (fun b z => z.elim (fun z => z.elim (fun z => .inl (.inl z)) fun z => .inr ⟨nw b z, (hf b (It.sub b z)).1⟩) fun z => .inl (.inr z)) fun b w z => z.elim (J₀.wx b w).2 fun z => nx b (It.sub b z) (.inr w)
  refine ⟨J, ⟨hr _ fun b z => z.elim (fun z => z.imp_left .inl) fun z => .inl (.inr z), fun b hb => ⟨.inr hb, ?_, fun ob z => (nomatch (nw b hb).symm.trans (J₀.kp b ob z).1)⟩, fun b hb => ⟨(hf b hb).1, fun z => nx b hb (.inr z), fun e => ?_, fun e => ?_⟩⟩, fun a z => ⟨.inl z, fun w => nx a (It.sub a w) (.inl z)⟩⟩
  · cases e : c.h₀.get? b with
    | none => rfl
    | some ob => exact nomatch (nw b hb).symm.trans (J₀.pc.st b ob e)
  · cases ht : T'.tape with
    | none => rfl
    | some bs => exact absurd (e ▸ (q.tape bs ht).1) (nx b hb)
  · cases ht : T'.self with
    | none => rfl
    | some fs => exact absurd (e ▸ (q.self fs ht).1) (nx b hb)
theorem Rs.next {t' iter' : PySem.Expr} {ifs' : List PySem.Expr} (hg : gens[dep + 1]? = some ⟨t', iter', ifs', 0⟩) (hh : hide Γ = Γ) (hs : ∀ (env : Env) x, foldedSetIterable iter' env x = pure x) (hi : EvI c n sc Γ T t' iter' ds T₁)
    (st : Steps c n sc ow elt gens scope pos (dep + 1) t' ifs' Γ T₁ ds out T') : Rs c n sc ow elt gens scope pos dep Γ T out T' := fun P A env s X₀ W K₀ RP acc l k Q E J hl hk => by
  unfold compRest
  rw [hg]
  dsimp only
  refine wpAny_bind (wpAny_mono (hi _ _ _ _ _ _ (hh ▸ J.pre)) (fun x s₁ q => wpAny_bind (wpAny_standAt ?_)) fun _ _ e => e)
  rw [if_neg (by decide)]
  refine wpAny_bind (wpAny_of_eq (hs _ _) (wpAny_bind (wpAny_holding ?_)))
  rw [if_neg (by decide)]
  refine wpAny_mono q (fun it s₂ q => ?_) fun _ _ e => e
  obtain ⟨I, fp, wr, items, bd, S, rfl, It, hS, o, q, hr, hf⟩ := q
  obtain ⟨J', H, hx⟩ := iter_start (J₀ := J) It o q hr hf
  refine wpAny_bind (wpAny_runOwn (codeAny_mono (compStart_at hg (fun Q E h => It.self A _ 0 Q E J.pc.a.1 hS h) (compLoop_at hg It hx (fun _ z => z) hl J' H hS st)) fun r s' q => ?_))
  obtain ⟨rfl, J''⟩ := q
  exact hk s' J''
end
end
noncomputable section
open PySem PySem.W PyProof.Rows PyProof.Rows.LSm
section
variable {c : Cx} {P : Sp} {n m : Nat} {T T' T'' T₁ : TS} {s s' s'' : Shared} {X X₀ X₁ Y W B : Addr → Prop} {K₀ K₁ : Addr → Obj → Prop} {sc sc' : Scp} {ow ow' : List Str} {A : Around} {env : Env} {Γ Γ' Γ₁ : Gam} {d : PyData} {dd : D} {v : Value} {sl : Slot} {E : Value → Shared → Prop} {e elt test iter : PySem.Expr} {h h' : Heap} {ac ac' : Option (Addr × List D)} {RP : Shared → (Addr → Prop) → Prop}
  {t : PySem.Expr} {I : Addr} {fp wr : List Addr} {items : List Value} {bd ds : List PyData} {S : Nat → Heap → Prop} {i j k : Nat} {x y : Str} {pos : Pos} {gens : List Comprehension} {scope : Scope} {ifs : List PySem.Expr} {dep : Nat} {out os : List D} {kd kd' : NameKind} {names : List (Str × NameKind)} {acc cs cl : List (Str × Addr)} {a : Addr} {mp : List (Option Nat)}
theorem cellsFrom_app (k : Nat) (acc : List (Str × Addr)) : cellsFrom k names acc = cellsFrom k names [] ++ acc := by
  induction names generalizing k acc with
  | nil => rfl
  | cons p r ih =>
    obtain ⟨x, kd⟩ := p
    unfold cellsFrom
    split
    · rw [ih, ih (k + 1) [(x, k)], List.append_assoc]; rfl
    · exact ih k acc
theorem cellsFrom_mem (k : Nat) (h : (x, a) ∈ cellsFrom k names []) : (x, .cell) ∈ names := by
  induction names generalizing k with
  | nil => cases h
  | cons p r ih =>
    obtain ⟨y, kd⟩ := p
    unfold cellsFrom at h
    split at h
    · rename_i q
      rw [cellsFrom_app, List.mem_append] at h
      rcases h with h | h
      · exact List.mem_cons_of_mem _ (ih _ h)
      · cases List.mem_singleton.mp h
        rw [beq_iff_eq.mp q]; exact List.mem_cons_self ..
    · exact List.mem_cons_of_mem _ (ih _ h)
theorem cellsFrom_has (k : Nat) (h : (x, .cell) ∈ names) : ∃ a, (x, a) ∈ cellsFrom k names [] := by
  induction names generalizing k with
  | nil => cases h
  | cons p r ih =>
    obtain ⟨y, kd⟩ := p
    unfold cellsFrom
    rcases List.mem_cons.mp h with e | h
    · cases e
      rw [if_pos (by rfl), cellsFrom_app]
      exact ⟨k, List.mem_append_right _ (List.mem_singleton.mpr rfl)⟩
    · split
      · rw [cellsFrom_app]; exact (ih (k + 1) h).imp fun _ z => List.mem_append_left _ z
      · exact ih k h
theorem lookup_has (h : (x, a) ∈ cs) : ∃ b, cs.lookup x = some b := by
  induction cs with
  | nil => cases h
  | cons p r ih =>
    rw [List.lookup_cons]
    cases e : x == p.1 with
    | true => exact ⟨_, rfl⟩
    | false =>
      refine ih ((List.mem_cons.mp h).resolve_left fun q => ?_)
      rw [← q, beq_self_eq_true] at e
      cases e
theorem lookup_app : (cs ++ cl).lookup x = (cs.lookup x).or (cl.lookup x) := by
  induction cs with
  | nil => rfl
  | cons p r ih =>
    rw [List.cons_append, List.lookup_cons, List.lookup_cons]
    cases x == p.1 with
    | true => rfl
    | false => exact ih
noncomputable def clF (cells : List (Str × Addr)) (names : List (Str × NameKind)) (acc : List (Str × Addr)) : List (Str × Addr) := names.foldl (fun cs p => if p.2 == .free then (p.1, (cells.lookup p.1).getD 0) :: cs else cs) acc
theorem closure_is (h : ∀ x, (x, .free) ∈ scope.names → ∃ a, env.cells.lookup x = some a) : closureFor scope env = pure (clF env.cells scope.names []) := by
  simp only [closureFor, clF]
  generalize ([] : List (Str × Addr)) = acc
  generalize scope.names = names at h
  induction names generalizing acc with
  | nil => rfl
  | cons p r ih =>
    obtain ⟨x, kd⟩ := p
    have ih := fun acc => ih acc fun x m => h x (List.mem_cons_of_mem _ m)
    rw [List.foldl_cons]
    simp only [List.forIn_cons]
    split
    · rename_i q
      obtain ⟨a, ea⟩ := h x (by rw [← beq_iff_eq.mp q]; exact List.mem_cons_self ..)
      unfold cellOf
      rw [ea]
      exact ih _
    · exact ih _
theorem clF_sound (hc : ∀ x a, acc.lookup x = some a → cs.lookup x = some a) (h : ∀ x, (x, .free) ∈ names → ∃ a, cs.lookup x = some a) : ∀ x a, (clF cs names acc).lookup x = some a → cs.lookup x = some a := by
  induction names generalizing acc with
  | nil => exact hc
  | cons p r ih =>
    obtain ⟨y, kd⟩ := p
    refine ih (fun x a => ?_) fun x m => h x (List.mem_cons_of_mem _ m)
    dsimp only
    split
    · rename_i q
      obtain ⟨b, eb⟩ := h y (by rw [← beq_iff_eq.mp q]; exact List.mem_cons_self ..)
      rw [eb, List.lookup_cons]
      cases e : x == y with
      | true => rintro ⟨⟩; rw [beq_iff_eq.mp e]; exact eb
      | false => exact hc x a
    · exact hc x a
theorem clF_has (h : (x, .free) ∈ names ∨ ∃ a, (x, a) ∈ acc) : ∃ a, (x, a) ∈ clF cs names acc := by
  induction names generalizing acc with
  | nil => exact h.resolve_left fun z => nomatch z
  | cons p r ih =>
    obtain ⟨y, kd⟩ := p
    refine ih ?_
    dsimp only
    rcases h with h | ⟨a, h⟩
    · rcases List.mem_cons.mp h with e | h
      · cases e
        exact .inr ⟨_, by rw [if_pos (by rfl)]; exact List.mem_cons_self ..⟩
      · exact .inl h
    · refine .inr ⟨a, ?_⟩
      split
      · exact List.mem_cons_of_mem _ h
      · exact h
noncomputable def relS (scope : Scope) (sc : Scp) : Scp := scope.names.map fun p => if (p.2 == .free && sc.lookup p.1 == some .cell) then (p.1, .cell) else (p.1, p.2)
theorem relabel_is (es : EnvS sc env) : (relabel scope env).names = relS scope sc := by
  unfold relabel relS Env.kindOf
  rw [es.hsc, es.fk]
  refine List.map_congr_left fun p _ => ?_
  obtain ⟨y, kd⟩ := p
  dsimp only
  rw [show (ScopeKind.function == ScopeKind.function) = true from rfl, Bool.and_true]
inductive Mp (sc : Scp) : List (Str × NameKind) → List (Option Nat) → Prop
  | nil : Mp sc [] []
  | skip (x : Str) (kd : NameKind) (ns : List (Str × NameKind)) (mp : List (Option Nat)) : kd ≠ .free → Mp sc ns mp → Mp sc ((x, kd) :: ns) (none :: mp)
  | take (x : Str) (k : Nat) (ns : List (Str × NameKind)) (mp : List (Option Nat)) : (sc[k]? = some (x, .cell) ∨ sc[k]? = some (x, .free)) → Mp sc ns mp → Mp sc ((x, .free) :: ns) (some k :: mp)
noncomputable def inG (mp : List (Option Nat)) (Γ : Gam) : Gam := mp.map fun o => (o.bind (gget Γ)).map fun sl => .v sl.toD
theorem Mp.free (q : Mp sc names mp) : ∀ x, (x, .free) ∈ names → ∃ k : Nat, sc[k]? = some (x, NameKind.cell) ∨ sc[k]? = some (x, NameKind.free) := by
  induction q with
  | nil => intro x h; cases h
  | skip y kd ns mp hk _ ih =>
    intro x h
    rcases List.mem_cons.mp h with e | h
    · cases e; exact absurd rfl hk
    · exact ih x h
  | take y k ns mp hk _ ih =>
    intro x h
    rcases List.mem_cons.mp h with e | h
    · cases e; exact ⟨k, hk⟩
    · exact ih x h
theorem Mp.get (q : Mp sc names mp) : ∀ j sl, gget (inG mp Γ) j = some sl → ∃ x k sl', names[j]? = some (x, .free) ∧ (sc[k]? = some (x, .cell) ∨ sc[k]? = some (x, .free)) ∧ gget Γ k = some sl' ∧ sl = .v sl'.toD := by
  induction q with
  | nil => intro j sl h; cases h
  | skip y kd ns mp hk _ ih =>
    intro j sl h
    cases j with
    | zero => cases h
    | succ j => exact ih j sl h
  | take y k ns mp hk _ ih =>
    intro j sl h
    cases j with
    | zero =>
      obtain ⟨sl', e1, e2⟩ := Option.map_eq_some_iff.mp (show (gget Γ k).map _ = some sl from h)
      exact ⟨y, k, sl', rfl, hk, e1, e2.symm⟩
    | succ j => exact ih j sl h
theorem newEnv_comp {M : Model} {Q : Env → Shared → Prop} (h : Q { scope, locals := s.heap.objs.size, globals := env.globals, cells := cellsFrom (s.heap.objs.size + 1) scope.names cl, qual := env.qual, func := none, code := env.code, frame := env.frame, builtins := env.builtins }
    { s with heap := pushCells (s.heap.push { cls := .type "dict", data := .dict #[] }) scope.names }) : wpAny M A (newFunctionEnv scope env.globals cl [] env.qual none .none (some env)) Q E s := by
  simp only [newFunctionEnv, Option.isSome_some, if_true]
  refine wpAny_bind (wpAny_alloc (wpAny_bind (wpAny_layCells _ (fun name kind cells => by cases hkc : kind == NameKind.cell <;> simp [hkc]) _ _ _ _ ?_)))
  rw [show ({ s with heap := s.heap.push { cls := .type "dict", data := .dict #[] } } : Shared).heap.objs.size = s.heap.objs.size + 1 from Heap.size_push ..]
  exact wpAny_bind (wpAny_pure (wpAny_pure h))
structure CompOK (sc : Scp) (t iter : PySem.Expr) (ifs : List PySem.Expr) (gens : List Comprehension) (scope : Scope) (sc' : Scp) (ow' : List Str) (mp : List (Option Nat)) : Prop where
  hg : gens[0]? = some ⟨t, iter, ifs, 0⟩
  hs : ∀ (env : Env) x, foldedSetIterable iter env x = pure x
  hk : scope.kind = .function
  nd : (scope.names.map (·.1)).Nodup
  rel : relS scope sc = sc'
  fr : Mp sc scope.names mp
  ow : ∀ x ∈ ow', (x, .cell) ∈ scope.names
structure CompEnd (c : Cx) (P : Sp) (n : Nat) (A : Around) (X : Addr → Prop) (T T' : TS) (s : Shared) (out : List D) (a C : Addr) (s' : Shared) (W' : Addr → Prop) : Prop where
  pc : PreC c P n A s' (Un X W') T'
  o : Out P T T' s s'
  ac : AcAt c P s'.heap (Un X W') W' (some (a, out))
  wc : W' C ∧ ∃ m, s'.heap.Ns C m
  wn : ∀ b, W' b → s.heap.get? b = none ∧ ¬ X b ∧ c.h₀.get? b = none
theorem comp_core {ps : Pos} {use : Option (Value → Sem Unit)} {Q : Value → Shared → Prop} (q : CompOK sc t iter ifs gens scope sc' ow' mp) (hi : EvI c n sc Γ T t iter ds T₁) (st : Steps c n sc' ow' elt gens scope pos 0 t ifs (inG mp Γ) T₁ ds out T')
    (hT : (T.tape = none ↔ T'.tape = none) ∧ T'.self = T.self ∧ T.self = none) (hl : out.length ≤ 1000000) (p : Pre c P n sc A env s X Γ T)
    (h : ∀ a C s' W', CompEnd c P n A X T T' s out a C s' W' → compPost c.M A E use Q (.ref a) C (.ok .next) s') : wpAny c.M A (comprehension (.ListComp elt gens scope pos) scope env ps (newList []) false (eval iter env) use) Q E s := by
  have fr : ∀ x, (x, .free) ∈ scope.names → ∃ a, env.cells.lookup x = some a := fun x hx => (q.fr.free x hx).elim fun k z => z.elim (fun z => p.es.cells x _ (List.mem_of_getElem? z) (.inl rfl)) fun z => p.es.cells x _ (List.mem_of_getElem? z) (.inr rfl)
  obtain ⟨gs, eg⟩ : ∃ gs, gens = ⟨t, iter, ifs, 0⟩ :: gs := by
    have := q.hg
    cases gens with
    | nil => cases this
    | cons g gs => cases this; exact ⟨gs, rfl⟩
  refine wpAny_comprehension_free (g := ⟨t, iter, ifs, 0⟩) (gs := gs) eg (q.hs env) (closure_is fr) q.hk (fun x hx e => lookup_nodup _ q.nd (e ▸ hx)) (wpAny_mono (hi _ _ _ _ _ E p) (fun x s₁ z => wpAny_mono z (fun it s₂ z => ?_) fun _ _ e => e) fun _ _ e => e)
  obtain ⟨I, fp, wr, items, bd, S, rfl, It, hS, o, sp, hr, hf⟩ := z
  refine wpAny_newObj_type (newEnv_comp ?_) (by size_fits)
  dsimp only
  rw [Heap.size_push]
  generalize hh : pushCells ((s₂.heap.push { cls := .type "list", data := .seq ([] : List Value).toArray }).push { cls := .type "dict", data := .dict #[] }) scope.names = h₄
  have hpush : s₂.heap.objs.size + 1 = (s₂.heap.push { cls := .type "list", data := .seq ([] : List Value).toArray }).objs.size := (Heap.size_push ..).symm
  have ok := cellsFrom_ok scope.names ((s₂.heap.push { cls := .type "list", data := .seq ([] : List Value).toArray }).push { cls := .type "dict", data := .dict #[] }) (s₂.heap.objs.size + 1 + 1) [] ⟨fun _ _ hm => (nomatch hm), List.Pairwise.nil⟩ (by rw [Heap.size_push, Heap.size_push]; exact Nat.le_refl _)
  rw [Heap.size_push, Heap.size_push, hh] at ok
  have up : Keep ((s₂.heap.push { cls := .type "list", data := .seq ([] : List Value).toArray }).push { cls := .type "dict", data := .dict #[] }) h₄ := fun b ob e => hh ▸ pushCells_keeps _ _ b ob e
  have kp : Keep s₂.heap h₄ := fun b ob e => up b ob (Heap.get?_push_of_some _ (Heap.get?_push_of_some _ e))
  have gacc := up _ _ (Heap.get?_push_of_some _ (Heap.get?_push_size s₂.heap (o := { cls := .type "list", data := .seq ([] : List Value).toArray }) rfl))
  have gL : h₄.Ns (s₂.heap.objs.size + 1) fun _ => none := hpush ▸ (Heap.Ns.new (s₂.heap.push { cls := .type "list", data := .seq ([] : List Value).toArray }) (.type "dict")).keeps up
  have o₄ : Out P T T₁ s { s₂ with heap := h₄ } := o.trans (Out.all (tk := s₂.toks) kp)
  have sp₄ := sp.keeps kp
  generalize hcs : cellsFrom (s₂.heap.objs.size + 1 + 1) scope.names [] = cs at ok
  rw [cellsFrom_app, hcs]
  generalize hcl : clF env.cells scope.names [] = cl
  have cls : ∀ x a, cl.lookup x = some a → env.cells.lookup x = some a := hcl ▸ clF_sound (fun _ _ z => nomatch z) fr
  have cc : ∀ x a, (cs ++ cl).lookup x = some a → (x, a) ∈ cs ∨ env.cells.lookup x = some a := fun x a z => by
    rw [lookup_app] at z
    cases e : cs.lookup x with
    | some b => rw [e] at z; cases z; exact .inl (mem_of_lookup e)
    | none => rw [e] at z; exact .inr (cls x a z)
  have Wge : ∀ b, (b = s₂.heap.objs.size ∨ b = s₂.heap.objs.size + 1 ∨ ∃ x, (x, b) ∈ cs) → s₂.heap.objs.size ≤ b := fun b z => by
    rcases z with rfl | rfl | ⟨x, z⟩
    · exact Nat.le_refl _
    · exact Nat.le_succ _
    · exact Nat.le_trans (Nat.le_succ_of_le (Nat.le_succ _)) (ok.empty x b z).2
  have ws : ∀ b, (b = s₂.heap.objs.size ∨ b = s₂.heap.objs.size + 1 ∨ ∃ x, (x, b) ∈ cs) → ∃ ob, h₄.get? b = some ob := fun b z => by
    rcases z with rfl | rfl | ⟨x, z⟩
    · exact ⟨_, gacc⟩
    · obtain ⟨ob, _, _, g, _⟩ := gL; exact ⟨ob, g⟩
    · exact (ok.empty x b z).1.imp fun _ z => z.1
  generalize hW : (fun b => b = s₂.heap.objs.size ∨ b = s₂.heap.objs.size + 1 ∨ ∃ x, (x, b) ∈ cs) = Wp
  have wge : ∀ b, Wp b → s₂.heap.objs.size ≤ b := hW ▸ Wge
  have wsome : ∀ b, Wp b → ∃ ob, h₄.get? b = some ob := hW ▸ ws
  have wacc : Wp s₂.heap.objs.size := hW ▸ .inl rfl
  have wL : Wp (s₂.heap.objs.size + 1) := hW ▸ .inr (.inl rfl)
  have wcs : ∀ x b, (x, b) ∈ cs → Wp b := fun x b z => hW ▸ .inr (.inr ⟨x, z⟩)
  have wn : ∀ b, Wp b → s.heap.get? b = none := fun b z => some_of_out o sp (none_of_size (wge b z))
  have wx : ∀ b, Wp b → ¬ X b := fun b z x => (p.pc.xlt b x).elim fun _ g => (nomatch (wn b z).symm.trans g)
  have w0 : ∀ b, s.heap.get? b = none → c.h₀.get? b = none := fun b z => by
    cases e : c.h₀.get? b with
    | none => rfl
    | some ob => exact nomatch z.symm.trans (p.pc.st b ob e)
  have nw : ∀ b ∈ wr, s.heap.get? b = none := fun b hb => (hf b (It.sub b hb)).2.elim And.right fun z => absurd hb z.2
  have nx : ∀ b ∈ fp, ¬ X b := fun b hb z => (hf b hb).2.elim (fun w => (p.pc.xlt b z).elim fun _ g => (nomatch w.2.symm.trans g)) fun w => w.1 z
  have nwp : ∀ b ∈ fp, ¬ Wp b := fun b hb z => (hf b hb).1.elim fun ob g => Nat.lt_irrefl _ (Nat.lt_of_lt_of_le (Heap.lt_size g) (wge b z))
  have hself : T₁.self = none := o.sf.trans hT.2.2
  obtain ⟨p₄, rd⟩ := p.pc.outX o₄ sp₄ (Y := Un (fun b => X b ∨ b ∈ wr) Wp) (fun b z => .inl (.inl z)) fun b z => z.elim (fun z => z.imp_right fun z => ⟨nw b z, (hf b (It.sub b z)).1.imp fun ob g => kp _ _ g⟩) fun z => .inr ⟨wn b z, wsome b z⟩
  have nms : sc'.map (·.1) = scope.names.map (·.1) := by
    rw [← q.rel]
    unfold relS
    rw [List.map_map]
    exact List.map_congr_left fun p _ => by dsimp only [Function.comp]; split <;> rfl
  have nget : ∀ k x kd, sc'[k]? = some (x, kd) → ∃ kd' : NameKind, scope.names[k]? = some (x, kd') ∧ (kd = kd' ∨ kd = NameKind.cell ∧ kd' = NameKind.free) := fun k x kd z => by
    rw [← q.rel] at z
    unfold relS at z
    rw [List.getElem?_map] at z
    obtain ⟨⟨y, kd'⟩, e1, e2⟩ := Option.map_eq_some_iff.mp z
    dsimp only at e2
    split at e2 <;> cases e2
    · rename_i w
      exact ⟨_, e1, .inr ⟨rfl, beq_iff_eq.mp (Bool.and_eq_true_iff.mp w).1⟩⟩
    · exact ⟨_, e1, .inl rfl⟩
  have clh : ∀ x, (x, .free) ∈ scope.names → ∃ a, cl.lookup x = some a := fun x hx => (clF_has (cs := env.cells) (acc := []) (.inl hx)).elim fun a z => lookup_has (hcl ▸ z)
  have csh : ∀ x, (x, .cell) ∈ scope.names → ∃ a, (x, a) ∈ cs ∧ (cs ++ cl).lookup x = some a := fun x hx => (cellsFrom_has (s₂.heap.objs.size + 1 + 1) hx).elim fun a z => (lookup_has (hcs ▸ z)).elim fun b e => ⟨b, mem_of_lookup e, by rw [lookup_app, e]; rfl⟩
  have ES : EnvS sc' { scope := relabel scope env, locals := s₂.heap.objs.size + 1, globals := env.globals, cells := cs ++ cl, qual := env.qual, func := none, code := env.code, frame := env.frame, builtins := env.builtins } :=
    ⟨(relabel_is p.es).trans q.rel, q.hk, nms.symm ▸ q.nd, p.es.gl, p.es.bl, fun x kd z w => by
      obtain ⟨k, e⟩ := List.getElem?_of_mem z
      obtain ⟨kd', e', r⟩ := nget k x kd e
      have m := List.mem_of_getElem? e'
      have : kd' = .cell ∨ kd' = .free := r.elim (fun e => e ▸ w) fun e => .inr e.2
      rcases this with rfl | rfl
      · exact (csh x m).imp fun _ z => z.2
      · obtain ⟨b, eb⟩ := clh x m
        dsimp only
        rw [lookup_app, eb]
        cases cs.lookup x with
        | none => exact ⟨b, rfl⟩
        | some b' => exact ⟨b', rfl⟩, fun x y a z w => by
      rcases cc x a z with z | z <;> rcases cc y a w with w | w
      · exact name_of_addr ok.apart z w
      · exact (p.cx y a w).elim fun _ g => g.elim fun _ g => (nomatch (wn a (wcs x a z)).symm.trans g.1)
      · exact (p.cx x a z).elim fun _ g => g.elim fun _ g => (nomatch (wn a (wcs y a w)).symm.trans g.1)
      · exact p.es.apart x y a z w⟩
  have J : Inv c P n sc' ow' A { scope := relabel scope env, locals := s₂.heap.objs.size + 1, globals := env.globals, cells := cs ++ cl, qual := env.qual, func := none, code := env.code, frame := env.frame, builtins := env.builtins } { s₂ with heap := h₄ }
      (fun b => X b ∨ b ∈ wr) Wp (fun b ob => s.heap.get? b = some ob ∧ (b = P.τ → T.tape = none)) (fun s' _ => ∃ h tk, s' = { s with heap := h, toks := tk }) (some (s₂.heap.objs.size, [])) (inG mp Γ) T₁ :=
    ⟨p₄, ES, fun x a z => (cc x a z).elim (fun z => ⟨_, (ok.empty x a z).1⟩) fun z => (p.cx x a z).imp fun _ z => z.imp fun _ g => ⟨kept_of o₄ p.pc.sp g.1 fun vs f => (nomatch g.2.symm.trans f), g.2⟩, fun a z => ⟨w0 a (wn a z), fun w => w.elim (wx a z) fun w => nwp a (It.sub a w) z⟩, ⟨?_, .inl hself⟩, ⟨wL, _, gL⟩,
      fun x hx => (csh x (q.ow x hx)).imp fun a z => ⟨none, z.2, wcs x a z.1, (ok.empty x a z.1).1⟩, fun b ob z => ⟨o₄.keep b ob z.1 z.2, fun w => (nomatch (wn b w).symm.trans z.1), fun e => o₄.nn.mp (z.2 e), fun _ => hself⟩,
      fun s₁ s₂ _ _ z sm _ _ => by obtain ⟨_, _, rfl⟩ := z; obtain ⟨_, _, rfl⟩ := sm; exact ⟨_, _, rfl⟩, o₄.same, fun q' e => by cases e; exact ⟨wacc, _, _, gacc, .nil⟩, fun k x kd sl h1 h2 => ?_⟩
  · have H : Held c P I fp wr items bd (fun b => X b ∨ b ∈ wr) Wp (fun b ob => s.heap.get? b = some ob ∧ (b = P.τ → T.tape = none)) T₁ { s₂ with heap := h₄ } :=
      ⟨(hr (fun b => X b ∨ b ∈ wr) fun _ z => z).imp fun _ _ z => (z.gro (Y := Un (fun b => X b ∨ b ∈ wr) Wp) fun a w => w.imp_right fun w => none_of_size (wge a w)).stable fun b ob e _ => kp b ob e,
        fun b hb => ⟨.inr hb, w0 b (nw b hb), fun ob z => (nomatch (nw b hb).symm.trans z.1)⟩, fun b hb => ⟨(hf b hb).1.imp fun ob g => kp _ _ g, nwp b hb, fun e => ?_, fun _ => hself⟩⟩
    · refine codeAny_mono (compStart_at q.hg (fun Q E h => It.self A _ 0 Q E p.pc.a.1 (It.frame _ _ _ hS fun b _ ob e => kp b ob e) h) (compLoop_at q.hg It (X₁ := X) (fun a z => ⟨.inl z, fun w => nx a (It.sub a w) z⟩) (fun _ z => z)
        (by simpa using hl) J H (It.frame _ _ _ hS fun b _ ob e => kp b ob e) st)) fun r s' z => ?_
      obtain ⟨rfl, J'⟩ := z
      rw [List.nil_append] at J'
      exact h _ _ s' Wp ⟨J'.pc, ⟨J'.rp, fun b ob e hb => (J'.kp b ob ⟨e, hb⟩).1, hT.1, hT.2.1⟩, J'.ac, J'.wl, fun b z => ⟨wn b z, wx b z, w0 b (wn b z)⟩⟩
    · cases ht : T₁.tape with
      | none => rfl
      | some bs => exact absurd (e ▸ (sp.tape bs ht).1) (nx b hb)
  · cases ht : T₁.tape with
    | none => exact .inl rfl
    | some bs => exact .inr (.inl (sp.tape bs ht).1)
  · obtain ⟨x', k', sl', e1, e2, e3, rfl⟩ := q.fr.get k sl h2
    obtain ⟨kd', e4, r⟩ := nget k x kd h1
    cases e1.symm.trans e4
    have m := List.mem_of_getElem? e1
    obtain ⟨v, ⟨a, la, ca⟩, rv⟩ : ∃ v, (∃ a, env.cells.lookup x = some a ∧ s.heap.IsCell a (some v)) ∧ Rd c P s.heap X v sl'.toD := e2.elim (fun z => p.er k' x _ sl' z e3) fun z => p.er k' x _ sl' z e3
    have lk : (cs ++ cl).lookup x = some a := by
      rw [lookup_app]
      cases e : cs.lookup x with
      | some b => cases (lookup_nodup _ q.nd m).symm.trans (lookup_nodup _ q.nd (cellsFrom_mem _ (hcs.symm ▸ mem_of_lookup e)))
      | none =>
        obtain ⟨b, eb⟩ := clh x m
        cases la.symm.trans (cls x b eb)
        exact eb
    have cv : h₄.IsCell a (some v) := ca.imp fun ob g => ⟨kept_of o₄ p.pc.sp g.1 fun vs f => (nomatch g.2.symm.trans f), g.2⟩
    refine ⟨v, ?_, rd v _ rv⟩
    rcases r with rfl | ⟨rfl, _⟩
    · exact ⟨a, lk, cv⟩
    · exact ⟨a, lk, cv⟩
end
end
noncomputable section
open PySem PySem.W PyProof.Rows PyProof.Rows.LSm
section
variable {c : Cx} {P : Sp} {n m : Nat} {T T' T'' T₁ : TS} {s s' s'' : Shared} {X X₀ X₁ Y W W' B : Addr → Prop} {K₀ K₁ : Addr → Obj → Prop} {sc sc' : Scp} {ow ow' : List Str} {A : Around} {env : Env} {Γ Γ' Γ₁ Γ₂ : Gam} {d : PyData} {dd : D} {v : Value} {sl : Slot} {E : Value → Shared → Prop} {e elt test iter : PySem.Expr} {h h' : Heap} {ac ac' : Option (Addr × List D)} {RP : Shared → (Addr → Prop) → Prop}
  {t : PySem.Expr} {I : Addr} {fp wr : List Addr} {items : List Value} {bd ds l : List PyData} {S : Nat → Heap → Prop} {i j k : Nat} {x y : Str} {pos : Pos} {gens : List Comprehension} {scope : Scope} {ifs : List PySem.Expr} {dep : Nat} {out os : List D} {kd kd' : NameKind} {mp : List (Option Nat)} {a C : Addr}
theorem CompEnd.fin (q : CompEnd c P n A X T T' s out a C s' W') (p : PreC c P n A s X T) (hs : T'.self = none) (sb : Heap.SameBut C s'.heap h') :
    Out P T T' s { s' with heap := h' } ∧ SpOK c P h' X T' ∧ s.heap.get? a = none ∧ ∃ vs n, h'.get? a = some ⟨.type "list", none, .seq vs n, #[]⟩ ∧ All2 (Rd c P h' X) vs.toList out := by
  obtain ⟨m, o, es, ep, g, hd, _⟩ := q.wc.2
  have tc : C = P.τ → T'.tape = none := fun e => by
    cases ht : T.tape with
    | none => exact q.o.nn.mp ht
    | some bs => exact absurd (e ▸ (p.sp.tape bs ht).1) (q.wn C q.wc.1).2.1
  have kc : Chg c P (· = C) (Un X W') T' s' { s' with heap := h' } := ⟨⟨_, s'.toks, rfl⟩, fun b ob e hb => (sb.2 b hb).trans e, fun b hb => hb ▸ ⟨.inr q.wc.1, (q.wn C q.wc.1).2.2, tc, fun _ => hs⟩, fun b ob hb e z => by
    cases hb
    cases g.symm.trans e
    exact z.2.elim fun _ z => z.elim fun _ z => (nomatch hd.symm.trans z)⟩
  have hX : ∀ b, X b → Un X W' b := fun b z => .inl z
  obtain ⟨wa, vs, k, ga, r⟩ := q.ac _ rfl
  refine ⟨⟨?_, fun b ob e hb => kc.keep b ob (q.o.keep b ob e hb) fun z => (nomatch ((q.wn C q.wc.1).1.symm.trans ((congrArg s.heap.get? z).symm.trans e) : (none : Option Obj) = some ob)), q.o.nn, q.o.sf⟩, kc.sp q.pc.sp hX ⟨?_, .inl hs⟩, (q.wn a wa).1, vs, k, kc.keep _ _ ga fun z => ?_, r.imp fun _ _ z => (z.stable kc.stable).anti hX⟩
  · obtain ⟨_, _, rfl⟩ := q.o.same
    exact ⟨_, _, rfl⟩
  · cases ht : T.tape with
    | none => exact .inl (q.o.nn.mp ht)
    | some bs => exact .inr (p.sp.tape bs ht).1
  · cases (z ▸ ga).symm.trans g
    cases hd
theorem comp_ev (hq : CompOK sc t iter ifs gens scope sc' ow' mp) (hi : EvI c n sc Γ T t iter ds T₁) (st : Steps c n sc' ow' elt gens scope pos 0 t ifs (inG mp Γ) T₁ ds out T')
    (hT : (T.tape = none ↔ T'.tape = none) ∧ T'.self = T.self ∧ T.self = none) (hl : out.length ≤ 1000000) (p : Pre c P n sc A env s X Γ T) :
    wpAny c.M A (eval (.ListComp elt gens scope pos) env) (fun v s' => Out P T T' s s' ∧ SpOK c P s'.heap X T' ∧ ∃ a, v = .ref a ∧ s.heap.get? a = none ∧ ∃ vs n, s'.heap.get? a = some ⟨.type "list", none, .seq vs n, #[]⟩ ∧ All2 (Rd c P s'.heap X) vs.toList out) E s := by
  have he : eval (.ListComp elt gens scope pos) env = comprehension (.ListComp elt gens scope pos) scope env (firstIterPos gens pos) (newList []) false (eval iter env) := by
    have := hq.hg
    cases gens with
    | nil => cases this
    | cons g gs => cases this; rfl
  rw [he]
  exact comp_core hq hi st hT hl p fun a C s' W' q => ⟨_, q.wc.2.choose_spec, fun h' sb => by
    obtain ⟨o, sp, n0, r⟩ := q.fin p.pc (hT.2.1.trans hT.2.2) sb
    exact ⟨o, sp, a, rfl, n0, r⟩⟩
theorem EvO.comp {ps : List PyData} (hq : CompOK sc t iter ifs gens scope sc' ow' mp) (hi : EvI c n sc Γ T t iter ds T₁) (st : Steps c n sc' ow' elt gens scope pos 0 t ifs (inG mp Γ) T₁ ds (ps.map .p) T')
    (hT : (T.tape = none ↔ T'.tape = none) ∧ T'.self = T.self ∧ T.self = none) (hl : ps.length ≤ 1000000) : EvO c n sc Γ T (.ListComp elt gens scope pos) ps T' := fun _ _ _ _ _ _ p =>
  wpAny_mono (comp_ev hq hi st hT (by rw [List.length_map]; exact hl) p) (fun v s' q => by
    obtain ⟨o, sp, a, rfl, n0, vs, k, g, r⟩ := q
    exact ⟨o, sp, a, vs, k, rfl, n0, g, all2_map r⟩) fun _ _ e => e
theorem Ev.compW {fs : List Flds} (hq : CompOK sc t iter ifs gens scope sc' ow' mp) (hi : EvI c n sc Γ T t iter ds T₁) (st : Steps c n sc' ow' elt gens scope pos 0 t ifs (inG mp Γ) T₁ ds (fs.map .ws) T')
    (hT : (T.tape = none ↔ T'.tape = none) ∧ T'.self = T.self ∧ T.self = none) (hl : fs.length ≤ 1000000) : Ev c n sc Γ T (.ListComp elt gens scope pos) (.wsl fs) T' := fun _ _ _ s X _ p =>
  wpAny_mono (comp_ev hq hi st hT (by rw [List.length_map]; exact hl) p) (fun v s' q => by
    obtain ⟨o, sp, a, rfl, n0, vs, k, g, r⟩ := q
    refine ⟨o, sp, a, _, vs, k, rfl, fun z => (p.pc.xlt a z).elim fun _ f => (nomatch n0.symm.trans f), g, rfl, rfl, ?_⟩
    generalize vs.toList = us at r
    clear st hl
    induction fs generalizing us with
    | nil => cases r; exact .nil
    | cons f fs ih => cases r with | cons x y => exact .cons x (ih _ y)) fun _ _ e => e
end
end
noncomputable section
open PySem PySem.W PyProof.Rows PyProof.Rows.LSm
inductive Fl where
  | next
  | brk
  | ret (d : D)
section
variable {c : Cx} {P : Sp} {n m : Nat} {T T' T'' T₁ : TS} {s s' s'' : Shared} {X X₀ X₁ Y W W' B : Addr → Prop} {K₀ K₁ : Addr → Obj → Prop} {sc sc' : Scp} {ow ow' : List Str} {A : Around} {env : Env} {Γ Γ' Γ₁ Γ₂ : Gam} {d : PyData} {dd : D} {v : Value} {sl : Slot} {E : Value → Shared → Prop} {e elt test iter : PySem.Expr} {h h' : Heap} {RP : Shared → (Addr → Prop) → Prop}
  {t : PySem.Expr} {I : Addr} {fp wr : List Addr} {items : List Value} {bd ds l : List PyData} {S : Nat → Heap → Prop} {i j k : Nat} {x y : Str} {pos px spos : Pos} {fl : Fl} {kd kd' : NameKind} {a C : Addr} {st : Stmt} {ss body orelse : List Stmt} {b : Bool}
theorem All2.map {β γ : Type} {R : Value → β → Prop} {Q : Value → γ → Prop} {f : β → γ} {vs ds} (a : All2 R vs ds) (k : ∀ v d, R v d → Q v (f d)) : All2 Q vs (ds.map f) := by
  induction a with
  | nil => exact .nil
  | cons x _ ih => exact .cons (k _ _ x) ih
theorem OwnAt.rd (q : OwnAt h (Un X₀ W) W v l) (hw : ∀ a, W a → ¬ X₀ a) : RdP h X₀ v (.list l) := by
  obtain ⟨a, vs, m, rfl, w, g, r⟩ := q
  exact RdP.list ⟨a, vs, m, _, rfl, hw a w, g, r.imp fun _ _ z => z.anti fun _ z => .inl z⟩
theorem Inv.preS (J : Inv c P n sc ow A env s X₀ W K₀ RP none Γ T) : Pre c P n sc A env s X₀ Γ T := by
  have kc : Chg c P (fun _ => False) (Un X₀ W) T s s := ⟨⟨_, _, rfl⟩, fun _ _ e _ => e, fun _ f => f.elim, fun _ _ f => f.elim⟩
  refine ⟨kc.pc J.pc (fun _ z => .inl z) (fun _ _ f => f.elim) J.sx, J.es, J.cx, fun k x kd sl h1 h2 => (J.bd k x kd sl h1 h2).imp fun v z => ⟨z.1, ?_⟩⟩
  cases sl with
  | v d => exact Rd.anti z.2 fun _ z => .inl z
  | own l => exact OwnAt.rd z.2 fun a w => (J.wx a w).2
  | own2 ll =>
    obtain ⟨a, vs, m, rfl, w, g, r, _⟩ := z.2
    exact RdP.list ⟨a, vs, m, _, rfl, (J.wx a w).2, g, r.map fun _ _ z => OwnAt.rd z fun a w => (J.wx a w).2⟩
theorem Inv.outS (J : Inv c P n sc ow A env s X₀ W K₀ RP none Γ T) (o : Out P T T' s s') (q : SpOK c P s'.heap X₀ T') : Inv c P n sc ow A env s' X₀ W K₀ RP none Γ T' := J.out o ⟨fun bs e => (q.tape bs e).imp_left .inl, fun fs e => by
  obtain ⟨z1, z2, z3, z4⟩ := J.pc.sp.self fs (o.sf.symm.trans e)
  refine ⟨z1, z2, z3, z4.mono (fun ob g => kept_of o J.pc.sp g fun vs f => ?_) (fun ob g => kept_of o J.pc.sp g fun vs f => ?_) fun v d r => r.stable (o.stable J.pc.sp)⟩
  · obtain ⟨_, g', _⟩ := z4
    cases g.symm.trans g'
    cases f
  · obtain ⟨_, _, g', _⟩ := z4
    exact nsData g'.ns g f⟩
theorem Inv.evS (J : Inv c P n sc ow A env s X₀ W K₀ RP none Γ T) (h : Ev c n sc Γ T e dd T') {Q : Value → Shared → Prop} (k : ∀ v s', Inv c P n sc ow A env s' X₀ W K₀ RP none Γ T' → Rd c P s'.heap X₀ v dd → Q v s') : wpAny c.M A (eval e env) Q E s :=
  h.run J.preS fun v s' p o r => k v s' (J.outS o p.pc.sp) r
noncomputable def Flt (d : PyData) : Prop := ∀ h X Y v, RdP h X v d → RdP h Y v d
theorem Flt.int {z : Int} : Flt (.int z) := fun _ _ _ _ r => by obtain ⟨t, rfl⟩ := RdP.inv r; exact RdP.int _ _
theorem Flt.str {z : Str} : Flt (.str z) := fun _ _ _ _ r => by obtain ⟨t, rfl⟩ := RdP.inv r; exact RdP.str _ _
theorem Flt.bool {z : Bool} : Flt (.bool z) := fun _ _ _ _ r => by cases (RdP.inv r : _ = _); exact RdP.bool _
theorem Flt.all {vs : List Value} (r : All2 (RdP h X) vs l) (hl : ∀ d ∈ l, Flt d) : All2 (RdP h Y) vs l := by
  induction r with
  | nil => exact .nil
  | cons x _ ih => exact .cons (hl _ (List.mem_cons_self ..) _ _ _ _ x) (ih fun d m => hl d (List.mem_cons_of_mem _ m))
theorem Flt.tuple (hl : ∀ d ∈ l, Flt d) : Flt (.tuple l) := fun _ _ Y _ r => by
  obtain ⟨a, o, vs, m, rfl, g, hc, hd, r⟩ := RdP.inv r
  exact RdP.tuple g hc hd (Flt.all r hl)
noncomputable def FlIs (c : Cx) (P : Sp) (X₀ : Addr → Prop) (s : Shared) (f : Flow) : Fl → Prop
  | .next => f = .next
  | .brk => f = .brk
  | .ret d => ∃ v, f = .ret v ∧ Rd c P s.heap X₀ v d
noncomputable def PostX (c : Cx) (P : Sp) (n : Nat) (sc : Scp) (ow : List Str) (A : Around) (env : Env) (X₀ : Addr → Prop) (K₀ : Addr → Obj → Prop) (RP : Shared → (Addr → Prop) → Prop) (fl : Fl) (Γ' : Gam) (T' : TS) (f : Flow) (s' : Shared) : Prop :=
  (∃ W', Inv c P n sc ow A env s' X₀ W' K₀ RP none Γ' T') ∧ FlIs c P X₀ s' f fl
noncomputable def Ex (c : Cx) (n : Nat) (sc : Scp) (ow : List Str) (Γ : Gam) (T : TS) (ss : List Stmt) (fl : Fl) (Γ' : Gam) (T' : TS) : Prop :=
  ∀ P A env s X₀ W K₀ RP E, Inv c P n sc ow A env s X₀ W K₀ RP none Γ T → wpAny c.M A (execs ss env) (PostX c P n sc ow A env X₀ K₀ RP fl Γ' T') E s
noncomputable def X1 (c : Cx) (n : Nat) (sc : Scp) (ow : List Str) (Γ : Gam) (T : TS) (st : Stmt) (fl : Fl) (Γ' : Gam) (T' : TS) : Prop :=
  ∀ P A env s X₀ W K₀ RP E, Inv c P n sc ow A env s X₀ W K₀ RP none Γ T → wpAny c.M A (exec st env) (PostX c P n sc ow A env X₀ K₀ RP fl Γ' T') E s
theorem Ex.nil : Ex c n sc ow Γ T [] .next Γ T := fun _ _ _ _ _ _ _ _ _ J => wpAny_execs_nil ⟨⟨_, J⟩, rfl⟩
theorem Ex.cons (h : X1 c n sc ow Γ T st .next Γ₁ T₁) (hs : Ex c n sc ow Γ₁ T₁ ss fl Γ' T') : Ex c n sc ow Γ T (st :: ss) fl Γ' T' := fun _ _ _ _ _ _ _ _ _ J =>
  wpAny_execs_cons (wpAny_mono (h _ _ _ _ _ _ _ _ _ J) (fun f s' q => by
    obtain ⟨⟨_, J'⟩, rfl⟩ := q
    exact hs _ _ _ _ _ _ _ _ _ J') fun _ _ e => e)
theorem Ex.stop (h : X1 c n sc ow Γ T st fl Γ' T') (hf : fl ≠ .next) : Ex c n sc ow Γ T (st :: ss) fl Γ' T' := fun _ _ _ _ _ _ _ _ _ J =>
  wpAny_execs_cons (wpAny_mono (h _ _ _ _ _ _ _ _ _ J) (fun f s' q => by
    cases fl with
    | next => exact absurd rfl hf
    | brk => cases (q.2 : _ = _); exact q
    | ret d => obtain ⟨v, rfl, _⟩ := id q.2; exact q) fun _ _ e => e)
theorem Ex.le (h : Ex c n sc ow Γ T ss fl Γ₁ T') (hw : Le Γ' Γ₁) : Ex c n sc ow Γ T ss fl Γ' T' := fun _ _ _ _ _ _ _ _ _ J =>
  wpAny_mono (h _ _ _ _ _ _ _ _ _ J) (fun _ _ q => ⟨q.1.imp fun _ J => J.weak hw fun _ _ z => z, q.2⟩) fun _ _ e => e
theorem X1.if (ht : Tr c n sc Γ T test b T₁ ∨ Tr c n sc (hide Γ) T test b T₁) (h1 : b = true → Ex c n sc ow Γ T₁ body fl Γ' T') (h2 : b = false → Ex c n sc ow Γ T₁ orelse fl Γ' T') : X1 c n sc ow Γ T (.If test body orelse pos) fl Γ' T' := fun P A env s X₀ W K₀ RP E J => by
  have go : ∀ s', Inv c P n sc ow A env s' X₀ W K₀ RP none Γ T₁ → (if b = true then wpAny c.M A (execs body env) (PostX c P n sc ow A env X₀ K₀ RP fl Γ' T') E s' else wpAny c.M A (execs orelse env) (PostX c P n sc ow A env X₀ K₀ RP fl Γ' T') E s') := fun s' J' => by
    cases b with
    | true => exact h1 rfl _ _ _ _ _ _ _ _ _ J'
    | false => exact h2 rfl _ _ _ _ _ _ _ _ _ J'
  refine wpAny_If ?_
  rcases ht with ht | ht
  · exact ht.run J.preS fun s' p o => go s' (J.outS o p.pc.sp)
  · exact J.tr ht go
theorem X1.assign (hsw : ∀ env, EnvS sc env → swapsWith e (some (.Name x px)) spos.line env = pure false) (h : Ev c n sc (hide Γ) T e dd T') (hk : sc[k]? = some (x, kd)) (hl : k < Γ.length) (ho : OwnK kd x ow) :
    X1 c n sc ow Γ T (.Assign [.Name x px] e spos) .next (Γ.set k (some (.v dd))) T' := fun _ _ _ _ _ _ _ _ _ J =>
  wpAny_Assign_Name (J.ev h fun v s' J' r => J'.store hk hl ho (sl := .v dd) r fun s'' J'' _ => ⟨⟨_, J''⟩, rfl⟩) (hsw _ J.es)
theorem Inv.fresh (J : Inv c P n sc ow A env s X₀ W K₀ RP none Γ T) (o : Out P T T' s s') (q : SpOK c P s'.heap (Un X₀ W) T') {vs : Array Value} (h0 : s.heap.get? a = none) (g : s'.heap.get? a = some ⟨.type "list", none, .seq vs m, #[]⟩) (r : All2 (RdP s'.heap X) vs.toList l) (hf : ∀ d ∈ l, Flt d) :
    Inv c P n sc ow A env s' X₀ (fun b => W b ∨ b = a) K₀ RP none Γ T' ∧ OwnAt s'.heap (Un X₀ fun b => W b ∨ b = a) (fun b => W b ∨ b = a) (.ref a) l :=
  ⟨J.outX o q (fun _ z => z) (fun _ z => .inl z) (fun b z => z.elim (fun z => .inl (.inl z)) fun z => z.elim (fun z => .inl (.inr z)) fun z => .inr (z ▸ ⟨h0, _, g⟩)) fun b w x => w.elim (fun w => (J.wx b w).2 x) fun w => (J.pc.xlt b (.inl x)).elim fun _ f => (nomatch (w ▸ h0).symm.trans f),
   a, vs, m, rfl, .inr rfl, g, Flt.all r hf⟩
theorem X1.own (hsw : ∀ env, EnvS sc env → swapsWith e (some (.Name x px)) spos.line env = pure false) (h : EvO c n sc (hide Γ) T e l T' ∨ EvO c n sc Γ T e l T') (hf : ∀ d ∈ l, Flt d) (hk : sc[k]? = some (x, kd)) (hl : k < Γ.length) (ho : OwnK kd x ow) :
    X1 c n sc ow Γ T (.Assign [.Name x px] e spos) .next (Γ.set k (some (.own l))) T' := fun P A env s X₀ W K₀ RP E J => by
  refine wpAny_Assign_Name ?_ (hsw _ J.es)
  rcases h with h | h
  · refine wpAny_mono (h _ _ _ _ _ _ J.pre) (fun v s' q => ?_) fun _ _ e => e
    obtain ⟨o, sp, a, vs, m, rfl, h0, g, r⟩ := q
    obtain ⟨J', q⟩ := J.fresh o sp h0 g r hf
    exact J'.store hk hl ho (sl := .own l) q fun s'' J'' _ => ⟨⟨_, J''⟩, rfl⟩
  · refine wpAny_mono (h _ _ _ _ _ _ J.preS) (fun v s' q => ?_) fun _ _ e => e
    obtain ⟨o, sp, a, vs, m, rfl, h0, g, r⟩ := q
    obtain ⟨J', q⟩ := J.fresh o (J.outS o sp).pc.sp h0 g r hf
    exact J'.store hk hl ho (sl := .own l) q fun s'' J'' _ => ⟨⟨_, J''⟩, rfl⟩
theorem X1.aug {op : Operator} {d₁ d₂ d₃ : PyData} (hop : ∀ A s (Q : Value → Shared → Prop) E X v u, RdP s.heap X v d₁ → RdP s.heap X u d₂ → (∀ w tk, RdP s.heap X w d₃ → Q w { s with toks := tk }) → wpAny c.M A (inplaceOp op v u) Q E s) (hg : gget Γ k = some (.v (.p d₁))) (h : Ev c n sc (hide Γ) T e (.p d₂) T') (hf : Flt d₁) (hk : sc[k]? = some (x, .local)) (hl : k < Γ.length) :
    X1 c n sc ow Γ T (.AugAssign (.Name x px) op e pos) .next (Γ.set k (some (.v (.p d₃)))) T' := fun P A env s X₀ W K₀ RP E J => by
  obtain ⟨v, ⟨m, hn, ev⟩, r⟩ := J.bd k x _ _ hk hg
  refine wpAny_AugAssign_Name (wpAny_loadName_local J.es.fk' (J.es.kind hk) hn ev (h.run J.pre fun u s' p o r' => ?_))
  exact hop _ _ _ _ _ _ _ (RdP.stable r (o.stable J.pc.sp)) r' fun w tk rw => ((J.out o p.pc.sp).all (tk := tk) fun _ _ e => e).store hk hl (.inl rfl) (sl := .v (.p d₃)) rw fun s'' J'' _ => ⟨⟨_, J''⟩, rfl⟩
theorem X1.ret (h : Ev c n sc Γ T e dd T') : X1 c n sc ow Γ T (.Return (some e) pos) (.ret dd) [] T' := fun _ _ _ _ _ _ _ _ _ J =>
  wpAny_Return_some (J.evS h fun v s' J' r => ⟨⟨_, J'.weak (fun _ _ z => nomatch z) fun _ _ z => z⟩, v, rfl, r⟩)
theorem X1.brk : X1 c n sc ow Γ T (.Break pos) .brk Γ T := fun _ _ _ _ _ _ _ _ _ J => wpAny_Break ⟨⟨_, J⟩, rfl⟩
theorem X1.unpack {elts : List PySem.Expr} {q : Nat} (hsw : ∀ env, swapsWithSole [.Tuple elts q px] e pos.line env = pure false ∧ swappedStores [.Tuple elts q px] e env = pure none) (h : Ev c n sc (hide Γ) T e (.p d) T') (ht : Tg c n sc ow (.Tuple elts q px) Γ d Γ') :
    X1 c n sc ow Γ T (.Assign [.Tuple elts q px] e pos) .next Γ' T' := fun _ _ env _ _ _ _ _ _ J =>
  Assign_Tuple (J.ev h fun v s' J' r => ht _ _ _ _ _ _ _ _ _ _ _ _ _ J' r fun s'' J'' => ⟨⟨_, J''⟩, rfl⟩) (hsw env).1 (hsw env).2
end
end
noncomputable section
open PySem PySem.W PyProof.Rows PyProof.Rows.LSm
section
variable {c : Cx} {P : Sp} {n m : Nat} {T T' T'' T₁ T₂ : TS} {s s' s'' : Shared} {X X₀ X₁ Y W W' B : Addr → Prop} {K₀ K₁ : Addr → Obj → Prop} {sc sc' : Scp} {ow ow' : List Str} {A : Around} {env : Env} {Γ Γ' Γ₁ Γ₂ : Gam} {d : PyData} {dd : D} {v : Value} {sl : Slot} {E : Value → Shared → Prop} {e elt test iter : PySem.Expr} {h h' : Heap} {RP : Shared → (Addr → Prop) → Prop}
  {t : PySem.Expr} {I : Addr} {fp wr : List Addr} {items : List Value} {bd ds l : List PyData} {S : Nat → Heap → Prop} {i j k : Nat} {x y : Str} {pos px spos : Pos} {fl : Fl} {kd kd' : NameKind} {a C : Addr} {st : Stmt} {ss body orelse : List Stmt} {b : Bool} {ac : Option (Addr × List D)}
noncomputable def Turn (c : Cx) (n : Nat) (sc : Scp) (ow : List Str) (t : PySem.Expr) (body : List Stmt) (Γ : Gam) (T : TS) (d : PyData) (fl : Fl) (Γ' : Gam) (T' : TS) : Prop :=
  ∃ Γ₁ Γ₂, Tg c n sc ow t Γ d Γ₁ ∧ Ex c n sc ow Γ₁ T body fl Γ₂ T' ∧ Le Γ' Γ₂
inductive Run (c : Cx) (n : Nat) (sc : Scp) (ow : List Str) (t : PySem.Expr) (body orelse : List Stmt) (Γ' : Gam) (T' : TS) : Gam → TS → List PyData → Fl → Prop
  | done (Γ : Gam) (T : TS) (fl : Fl) : Ex c n sc ow Γ T orelse fl Γ' T' → Run c n sc ow t body orelse Γ' T' Γ T [] fl
  | next (Γ : Gam) (T : TS) (d : PyData) (Γ₁ : Gam) (T₁ : TS) (ds : List PyData) (fl : Fl) : Turn c n sc ow t body Γ T d .next Γ₁ T₁ → Run c n sc ow t body orelse Γ' T' Γ₁ T₁ ds fl → Run c n sc ow t body orelse Γ' T' Γ T (d :: ds) fl
  | brk (Γ : Gam) (T : TS) (d : PyData) (ds : List PyData) : Turn c n sc ow t body Γ T d .brk Γ' T' → Run c n sc ow t body orelse Γ' T' Γ T (d :: ds) .next
  | ret (Γ : Gam) (T : TS) (d : PyData) (x : D) (ds : List PyData) : Turn c n sc ow t body Γ T d (.ret x) Γ' T' → Run c n sc ow t body orelse Γ' T' Γ T (d :: ds) (.ret x)
theorem Inv.letGo (J : Inv c P n sc ow A env s Y W K₁ RP ac Γ T) (hx : ∀ a, X₀ a → Y a) (hx' : ∀ a, Y a → X₀ a ∨ (a = P.τ → T.tape = none) ∧ (a = P.dx → T.self = none)) (hK : ∀ b o, K₀ b o → K₁ b o) (hw : Le Γ' Γ) : Inv c P n sc ow A env s X₀ W K₀ RP ac Γ' T :=
  (J.chg (B := fun _ => False) (s' := s) ⟨⟨_, _, rfl⟩, fun _ _ e _ => e, fun _ f => f.elim, fun _ _ f => f.elim⟩ (fun _ _ _ f => f) (fun _ _ _ f => f.elim) (fun a z => ⟨hx a z, fun f => f.elim⟩)
    ⟨J.sx.1.elim .inl fun z => (hx' _ z).elim .inr fun z => .inl (z.1 rfl), J.sx.2.elim .inl fun z => (hx' _ z).elim .inr fun z => .inl (z.2 rfl)⟩).weak hw hK
theorem turn_run (tn : Turn c n sc ow t body Γ T d fl Γ₁ T₁) (It : Iter c t I fp wr items bd ds S) (J : Inv c P n sc ow A env s X₀ W K₀ RP none Γ T) (H : Held c P I fp wr items bd X₀ W K₀ T s) (hS : S i s.heap) (hi : ds[i]? = some d) {F : Flow → Shared → Prop} {G : Shared → Prop}
    (hF : ∀ f s' W', Inv c P n sc ow A env s' X₀ W' K₀ RP none Γ₁ T₁ → Held c P I fp wr items bd X₀ W' K₀ T₁ s' → S (i + 1) s'.heap → FlIs c P X₀ s' f fl → F f s') :
    wpAny c.M A (pyNext (.ref I)) (fun r s₁ => match r with | none => G s₁ | some v => wpAny c.M A (letOwnedTupleGo t (.ref I) v) (fun _ s₁' => wpAny c.M A (PySem.assign t env v) (fun _ s₂ => wpAny c.M A (execs body env) F E s₂) E s₁') E s₁) E s := by
  obtain ⟨Γ₁', Γ₂', tg, ex, le⟩ := tn
  refine wpAny_mono (It.next (Q := fun v s₁' => wpAny c.M A (PySem.assign t env v) (fun _ s₂ => wpAny c.M A (execs body env) F E s₂) E s₁') J H hS hi fun v s₁ J₁ H₁ hS₁ r => tg _ _ _ _ _ _ _ _ _ _ _ _ (J₁.rpAnd Clo.rd H₁.rd) r (Q := fun _ s₂ => wpAny c.M A (execs body env) F E s₂) fun s₂ J₂ => wpAny_mono (ex _ _ _ _ _ _ _ _ _ J₂) (fun f s₃ q => ?_) fun _ _ e => e) (fun r s₁ q => by
    obtain ⟨v, rfl, q⟩ := q
    exact q) fun _ _ e => e
  obtain ⟨⟨W', J₃⟩, hf⟩ := q
  exact hF f s₃ W' ((J₃.weak le fun _ _ z => .inl z).rpFst J.rc) ⟨J₃.rp.2, H₁.hw, fun b hb => (H₁.hf b hb).1.elim fun o e => have z := J₃.kp b o (.inr ⟨hb, e⟩); ⟨⟨o, z.1⟩, z.2⟩⟩ (It.frame _ _ _ hS₁ fun b hb ob e => (J₃.kp b ob (.inr ⟨hb, e⟩)).1) hf
theorem for_loop (It : Iter c t I fp wr items bd ds S) (hS : S 0 s.heap) (J : Inv c P n sc ow A env s (fun b => X₀ b ∨ b ∈ wr) W K₀ RP none Γ T) (H : Held c P I fp wr items bd (fun b => X₀ b ∨ b ∈ wr) W K₀ T s) (hx : ∀ a, X₀ a → a ∉ wr) (hr : Run c n sc ow t body orelse Γ' T' Γ T ds fl) :
    codeAny c.M A (.forLoop t (.ref I) body orelse env) (fun r s' => match r with | .ok f => PostX c P n sc ow A env X₀ K₀ RP fl Γ' T' f s' | .error e => cameBackBy c.M A env E e s') s := by
  refine codeAny_forLoop_any (fun k s => ∃ i W Γ T ds', k = ds'.length ∧ ds.drop i = ds' ∧ i ≤ ds.length ∧ Inv c P n sc ow A env s (fun b => X₀ b ∨ b ∈ wr) W K₀ RP none Γ T ∧ Held c P I fp wr items bd (fun b => X₀ b ∨ b ∈ wr) W K₀ T s ∧ S i s.heap ∧ Run c n sc ow t body orelse Γ' T' Γ T ds' fl)
    (fun k s q => ?_) ds.length ⟨0, W, Γ, T, ds, rfl, rfl, Nat.zero_le _, J, H, hS, hr⟩
  obtain ⟨i, W, Γ, T, ds', rfl, hd, hi, J, H, hS, hr⟩ := q
  have out : ∀ {Γ₁ T₁ s' W'}, Inv c P n sc ow A env s' (fun b => X₀ b ∨ b ∈ wr) W' K₀ RP none Γ₁ T₁ → Held c P I fp wr items bd (fun b => X₀ b ∨ b ∈ wr) W' K₀ T₁ s' → Inv c P n sc ow A env s' X₀ W' K₀ RP none Γ₁ T₁ := fun J H => J.letGo (fun _ z => .inl z) (fun a z => z.imp_right fun z => (H.hf a (It.sub a z)).2.2) (fun _ _ z => z) fun _ _ z => z
  have at' : ∀ {d ds'}, ds.drop i = d :: ds' → ds[i]? = some d ∧ ds.drop (i + 1) = ds' := fun e => ⟨by rw [← List.head?_drop, e]; rfl, by rw [← List.tail_drop, e]; rfl⟩
  cases hr with
  | done _ _ _ ex =>
    cases Nat.le_antisymm hi (List.drop_eq_nil_iff.mp hd)
    exact It.last (X₁ := X₀) J H hS (fun a z => ⟨.inl z, hx a z⟩) (fun _ z => z) fun s' J' => ex _ _ _ _ _ _ _ _ _ J'
  | next _ _ d Γ₁ T₁ ds' _ tn hr =>
    obtain ⟨h1, h2⟩ := at' hd
    refine turn_run tn It J H hS h1 fun f s' W' J' H' hS' hf => ?_
    cases (hf : _ = _)
    exact ⟨ds'.length, Nat.lt_succ_self _, i + 1, W', Γ₁, T₁, ds', rfl, h2, (List.getElem?_eq_some_iff.mp h1).1, J', H', hS', hr⟩
  | brk _ _ d ds' tn =>
    refine turn_run tn It J H hS (at' hd).1 fun f s' W' J' H' hS' hf => ?_
    cases (hf : _ = _)
    exact ⟨⟨W', out J' H'⟩, rfl⟩
  | ret _ _ d x ds' tn =>
    refine turn_run tn It J H hS (at' hd).1 fun f s' W' J' H' hS' hf => ?_
    obtain ⟨v, rfl, r⟩ := hf
    exact ⟨⟨W', out J' H'⟩, v, rfl, r.anti fun _ z => .inl z⟩
theorem X1.for (hs : ∀ (env : Env) x, foldedSetIterable iter env x = pure x) (hi : EvI c n sc (hide Γ) T t iter ds T₁) (hr : Run c n sc ow t body orelse Γ' T' Γ T₁ ds fl) : X1 c n sc ow Γ T (.For t iter body orelse pos) fl Γ' T' := fun P A env s X₀ W K₀ RP E J =>
  wpAny_For (wpAny_mono (hi _ _ _ _ _ _ J.pre) (fun x s₁ q => wpAny_mono q (fun it s₂ q => by
    obtain ⟨I, fp, wr, items, bd, S, rfl, It, hS, o, q, hrd, hf⟩ := q
    obtain ⟨J', H, hx⟩ := iter_start (J₀ := J) It o q hrd hf
    exact for_loop It hS J' H (fun a z => (hx a z).2) hr) fun _ _ e => e) fun _ _ e => e) (hs env)
inductive Loop (c : Cx) (n : Nat) (sc : Scp) (ow : List Str) (test : PySem.Expr) (body orelse : List Stmt) (Γ' : Gam) (T' : TS) : Nat → Gam → TS → Fl → Prop
  | done (Γ : Gam) (T T₁ : TS) (fl : Fl) : Tr c n sc (hide Γ) T test false T₁ → Ex c n sc ow Γ T₁ orelse fl Γ' T' → Loop c n sc ow test body orelse Γ' T' 0 Γ T fl
  | next (k : Nat) (Γ : Gam) (T T₁ : TS) (Γ₁ : Gam) (T₂ : TS) (fl : Fl) : Tr c n sc (hide Γ) T test true T₁ → Ex c n sc ow Γ T₁ body .next Γ₁ T₂ → Loop c n sc ow test body orelse Γ' T' k Γ₁ T₂ fl → Loop c n sc ow test body orelse Γ' T' (k + 1) Γ T fl
theorem X1.while (hl : Loop c n sc ow test body orelse Γ' T' k Γ T fl) : X1 c n sc ow Γ T (.While test body orelse pos) fl Γ' T' := fun P A env s X₀ W K₀ RP E J => by
  refine wpAny_While (codeAny_whileLoop (fun k s => ∃ W Γ T, Inv c P n sc ow A env s X₀ W K₀ RP none Γ T ∧ Loop c n sc ow test body orelse Γ' T' k Γ T fl) (fun k s q => ?_) k ⟨W, Γ, T, J, hl⟩)
  obtain ⟨W, Γ, T, J, hl⟩ := q
  cases hl with
  | done _ _ T₁ _ ht ex => exact J.tr ht fun s' J' => ex _ _ _ _ _ _ _ _ _ J'
  | next k _ _ T₁ Γ₁ T₂ _ ht ex hl =>
    refine J.tr ht fun s' J' => ?_
    rw [if_pos rfl]
    refine wpAny_mono (ex _ _ _ _ _ _ _ _ _ J') (fun f s₃ q => ?_) fun _ _ e => e
    obtain ⟨⟨W', J₃⟩, rfl⟩ := q
    exact ⟨k, Nat.lt_succ_self _, W', Γ₁, T₂, J₃, hl⟩
theorem X1.used {gens : List Comprehension} {scope : Scope} {mp : List (Option Nat)} {ifs : List PySem.Expr} (hsw : ∀ env, EnvS sc env → swapsWith (.ListComp elt gens scope pos) (some (.Name x px)) spos.line env = pure true)
    (hq : CompOK sc t iter ifs gens scope sc' ow' mp) (hi : EvI c n sc (hide Γ) T t iter ds T₁) (st : Steps c n sc' ow' elt gens scope pos 0 t ifs (inG mp (hide Γ)) T₁ ds (l.map .p) T')
    (hT : (T.tape = none ↔ T'.tape = none) ∧ T'.self = T.self ∧ T.self = none) (hl : l.length ≤ 1000000) (hsl : sl = .v (.p (.list l)) ∨ sl = .own l ∧ ∀ d ∈ l, Flt d) (hk : sc[k]? = some (x, kd)) (hkl : k < Γ.length) (ho : OwnK kd x ow) :
    X1 c n sc ow Γ T (.Assign [.Name x px] (.ListComp elt gens scope pos) spos) .next (Γ.set k (some sl)) T' := fun P A env s X₀ W K₀ RP E J => by
  rw [exec_Assign_Name_used _ _ _ _ (hsw _ J.es)]
  have he : evalThenUse (.ListComp elt gens scope pos) env (PySem.assign (.Name x px) env) = (do let _ ← comprehension (.ListComp elt gens scope pos) scope env (firstIterPos gens pos) (newList []) false (eval iter env) (some (PySem.assign (.Name x px) env))) := by
    have := hq.hg
    cases gens with
    | nil => cases this
    | cons g gs => cases this; rfl
  rw [he]
  have hself : T'.self = none := hT.2.1.trans hT.2.2
  refine wpAny_bind (wpAny_standAt (wpAny_bind (wpAny_bind (wpAny_mono (comp_core (Q := fun _ s' => PostX c P n sc ow A env X₀ K₀ RP .next (Γ.set k (some sl)) T' .next s') hq hi st hT (by rw [List.length_map]; exact hl) J.pre fun a C s' V q => ?_) (fun _ s' z => wpAny_pure (wpAny_pure z)) fun _ _ e => e))))
  obtain ⟨wa, vs, m, g, r⟩ := q.ac _ rfl
  obtain ⟨wc, mm, hn⟩ := q.wc
  obtain ⟨oC, es, ep, gC, hdC, _⟩ := id hn
  have aC : a ≠ C := fun e => by cases (e ▸ g).symm.trans gC; cases hdC
  have nX : ∀ b, Un X₀ W b → ¬ V b := fun b z w => (q.wn b w).2.1 z
  have kc : Chg c P (fun _ => False) (Un (Un X₀ W) V) T' s' s' := ⟨⟨_, _, rfl⟩, fun _ _ e _ => e, fun _ f => f.elim, fun _ _ f => f.elim⟩
  have sp : SpOK c P s'.heap (Un X₀ W) T' := kc.sp q.pc.sp (fun _ z => .inl z) ⟨by
    cases ht : T.tape with
    | none => exact .inl (hT.1.mp ht)
    | some bs => exact .inr (J.pc.sp.tape bs ht).1, .inl hself⟩
  have own : ∃ W₁, Inv c P n sc ow A env s' (fun b => X₀ b ∨ b = C) W₁ K₀ RP none Γ T' ∧ RdS c P s'.heap (Un (fun b => X₀ b ∨ b = C) W₁) W₁ (.ref a) sl ∧ ¬ W₁ C := by
    have hU : ∀ b, Un (fun b => X₀ b ∨ b = C) W b → Un X₀ W b ∨ s.heap.get? b = none ∧ ∃ ob, s'.heap.get? b = some ob := fun b z => z.elim (fun z => z.elim (fun z => .inl (.inl z)) fun z => .inr (z ▸ ⟨(q.wn C wc).1, _, gC⟩)) fun z => .inl (.inr z)
    have wC : ¬ W C := fun z => nX C (.inr z) wc
    rcases hsl with rfl | ⟨rfl, hf⟩
    · refine ⟨W, J.outX q.o sp (fun _ z => .inl z) (fun _ z => z) hU fun b w z => z.elim (J.wx b w).2 fun z => wC (z ▸ w), RdP.list ⟨a, vs, m, _, rfl, fun z => z.elim (fun z => z.elim (fun z => nX a (.inl z) wa) aC) fun z => nX a (.inr z) wa, g, all2_map (r.imp fun _ _ z => z.anti fun b z => ?_)⟩, wC⟩
      exact z.elim (fun z => z.elim (fun z => .inl (.inl z)) fun z => .inr (z ▸ wc)) fun z => .inl (.inr z)
    · refine ⟨fun b => W b ∨ b = a, J.outX q.o sp (fun _ z => .inl z) (fun _ z => .inl z) (fun b z => z.elim (fun z => hU b (.inl z)) fun z => z.elim (fun z => hU b (.inr z)) fun z => .inr (z ▸ ⟨(q.wn a wa).1, _, g⟩)) fun b w z => ?_, ⟨a, vs, m, rfl, .inr rfl, g, Flt.all (all2_map r) hf⟩, fun z => z.elim wC fun z => aC z.symm⟩
      rcases w with w | rfl
      · exact z.elim (J.wx b w).2 fun z => wC (z ▸ w)
      · exact z.elim (fun z => nX b (.inl z) wa) aC
  obtain ⟨W₁, J₁, rs, wC⟩ := own
  have J₂ : Inv c P n sc ow A env s' (fun b => X₀ b ∨ b = C) W₁ (fun b o => K₀ b o ∨ b = C ∧ o = oC) RP none Γ T' := { J₁ with
    kp := fun b o z => z.elim (J₁.kp b o) fun z => by
      obtain ⟨rfl, rfl⟩ := z
      refine ⟨gC, wC, fun e => ?_, fun _ => hself⟩
      cases ht : T.tape with
      | none => exact hT.1.mp ht
      | some bs => exact absurd wc (nX b (e ▸ (J.pc.sp.tape bs ht).1)) }
  refine wpAny_assign_Name (J₂.store hk hkl ho rs fun s'' J₃ _ => ?_)
  have gC' := J₃.kp C oC (.inr ⟨rfl, rfl⟩)
  refine ⟨mm, hn.at fun o e => by cases gC.symm.trans e; exact gC'.1, fun h' sb => ⟨⟨W₁, ?_⟩, rfl⟩⟩
  exact (J₃.weak (fun _ _ z => z) fun _ _ z => .inl z).chg (X₀ := X₀) (B := (· = C)) (s' := { s'' with heap := h' }) ⟨⟨_, s''.toks, rfl⟩, fun b ob e hb => (sb.2 b hb).trans e, fun b hb => by cases hb; exact ⟨.inr rfl, (q.wn _ wc).2.2, gC'.2.2.1, gC'.2.2.2⟩, fun b ob hb e z => by
      cases hb
      cases gC'.1.symm.trans e
      exact z.2.elim fun _ z => z.elim fun _ z => (nomatch hdC.symm.trans z)⟩ (fun b o z hb => by cases hb; exact (nomatch (q.wn _ wc).1.symm.trans (J.kp _ o z).1)) (fun b o v hb e z => by
      cases hb
      cases gC'.1.symm.trans e
      cases hdC.symm.trans z) (fun b z => ⟨.inl z, fun hb => absurd wc (nX C (.inl (hb ▸ z)))⟩) ⟨J₃.sx.1.elim .inl fun z => z.elim .inr fun z => .inl (gC'.2.2.1 z.symm), .inl hself⟩
end
end
noncomputable section
open PySem PySem.W PyProof.Rows PyProof.Rows.LSm
section
variable {c : Cx} {P : Sp} {n m : Nat} {T T' T'' T₁ T₂ : TS} {s s' s'' : Shared} {X X₀ X₁ Y W W' B : Addr → Prop} {K₀ K₁ : Addr → Obj → Prop} {sc sc' : Scp} {ow ow' : List Str} {A : Around} {env : Env} {Γ Γ' Γ₁ Γ₂ : Gam} {d : PyData} {dd : D} {v : Value} {sl : Slot} {E : Value → Shared → Prop} {e elt test iter : PySem.Expr} {h h' : Heap} {RP : Shared → (Addr → Prop) → Prop}
  {t : PySem.Expr} {l l' : List PyData} {ds : List D} {i j k : Nat} {x y nm : Str} {pos px spos apos cpos : Pos} {fl : Fl} {kd kd' : NameKind} {a C : Addr} {es : List PySem.Expr} {id : String}
theorem Inv.ownAt (J : Inv c P n sc ow A env s X₀ W K₀ RP none Γ T) (hk : sc[k]? = some (x, kd)) (hg : gget Γ k = some (.own l)) : ∃ a vs m, Bound s.heap env x (.ref a) kd ∧ W a ∧ s.heap.get? a = some ⟨.type "list", none, .seq vs m, #[]⟩ ∧ All2 (RdP s.heap (Un X₀ W)) vs.toList l := by
  obtain ⟨v, b, a, vs, m, rfl, w, g, r⟩ := J.bd k x kd _ hk hg
  exact ⟨a, vs, m, b, w, g, r⟩
theorem Inv.own (J : Inv c P n sc ow A env s X₀ W K₀ RP none Γ T) (hk : sc[k]? = some (x, kd)) (hl : k < Γ.length) (hn : hide (Γ.set k none) = Γ.set k none) {vs vs' : Array Value} {m' tk : Nat} (b : Bound s.heap env x (.ref a) kd) (w : W a) (g : s.heap.get? a = some ⟨.type "list", none, .seq vs m, #[]⟩)
    (sb : Heap.SameBut a s.heap h') (g' : h'.get? a = some ⟨.type "list", none, .seq vs' m', #[]⟩) (r : All2 (RdP s.heap (Un X₀ W)) vs'.toList l') : Inv c P n sc ow A env { s with heap := h', toks := tk } X₀ W K₀ RP none (Γ.set k (some (.own l'))) T := by
  have kc := same_chg (tk := tk) J w g (fun z => absurd (Value.type.inj z.1) (by decide)) sb
  have kk : ∀ {b o}, s.heap.get? b = some o → (∀ vs n, o.data ≠ .seq vs n) → h'.get? b = some o := fun e f => kc.keep _ _ e fun hb => by cases (hb ▸ e).symm.trans g; exact f _ _ rfl
  have cell : ∀ {a v}, s.heap.IsCell a v → h'.IsCell a v := fun z => z.imp fun ob q => ⟨kk q.1 fun _ _ f => (nomatch q.2.symm.trans f), q.2⟩
  have ns : ∀ {m}, s.heap.Ns env.locals m → h'.Ns env.locals m := fun z => z.at fun ob q => kk q fun _ _ f => by
    obtain ⟨_, _, _, g', hd, _⟩ := z
    cases g'.symm.trans q
    cases hd.symm.trans f
  have bnd : ∀ {y v kd}, Bound s.heap env y v kd → Bound h' env y v kd := fun {y v kd} z => by
    cases kd with
    | «local» => exact z.imp fun _ q => ⟨ns q.1, q.2⟩
    | cell => exact z.imp fun _ q => ⟨q.1, cell q.2⟩
    | free => exact z.imp fun _ q => ⟨q.1, cell q.2⟩
    | globalExplicit => exact z.elim
    | globalImplicit => exact z.elim
  refine J.put kc w ⟨_, g'⟩ (J.wl.2.imp fun _ => ns) (fun _ _ v _ z => ⟨v, cell z⟩) (fun q' e => nomatch e) fun j y kd' sl h1 h2 => ?_
  rw [gget_set hl] at h2
  by_cases e : j = k
  · rw [if_pos e] at h2
    cases h2; cases e; cases hk.symm.trans h1
    exact ⟨_, bnd b, a, vs', m', rfl, w, g', r.imp fun _ _ z => z.stable kc.stable⟩
  · rw [if_neg e] at h2
    have h3 : gget (Γ.set k none) j = some sl := by
      unfold gget at h2 ⊢
      rwa [List.getElem?_set_ne (Ne.symm e)]
    rw [← hn, hide, gget_map] at h3
    obtain ⟨sl', _, e2⟩ := Option.bind_eq_some_iff.mp h3
    cases sl' with
    | v d => cases e2; exact (J.bd j y kd' _ h1 h2).imp fun u z => ⟨bnd z.1, Rd.stable z.2 kc.stable⟩
    | own l => cases e2
    | own2 l => cases e2
noncomputable def Wr (c : Cx) (id : String) (l : List PyData) (ds : List D) (l' : List PyData) : Prop := ∀ P A s X a vs m us (Q : Value → Shared → Prop) E, AOK 0 A → s.heap.get? a = some ⟨.type "list", none, .seq vs m, #[]⟩ → All2 (RdP s.heap X) vs.toList l → All2 (Rd c P s.heap X) us ds →
  (∀ h' vs' m', Heap.SameBut a s.heap h' → h'.get? a = some ⟨.type "list", none, .seq vs' m', #[]⟩ → All2 (RdP s.heap X) vs'.toList l' → Q .none { s with heap := h' }) → wpAny c.M A (call (.builtin id) (.ref a :: us)) Q E s
theorem Wr.append (hl : l.length ≤ 1000000) : Wr c "list.append" l [.p d] (l ++ [d]) := fun P A s X a vs m us Q E hA g r ru h => by
  obtain ⟨u, us, rfl, ra, r'⟩ := ru.cons_inv
  cases r'
  have len := r.length
  simp only [Array.length_toList] at len
  refine append_at g (fun h' sb g' => h h' _ _ sb g' ?_) (by rw [sizeLine_eq]; (first | (simp +arith only; done) | lia | omega))
  rw [Array.toList_push]
  exact r.append (.cons ra .nil)
theorem Wr.insert0 (hl : l.length ≤ 1000000) : Wr c "list.insert" l [.p (.int 0), .p d] (d :: l) := fun P A s X a vs m us Q E hA g r ru h => by
  obtain ⟨u, us, rfl, r0, r'⟩ := ru.cons_inv
  obtain ⟨w, us, rfl, ra, r'⟩ := r'.cons_inv
  cases r'
  obtain ⟨t, rfl⟩ := RdP.inv r0
  have len := r.length
  simp only [Array.length_toList] at len
  refine call_meets F.slot_list_insert ⟨_, g, rfl⟩ F.entry_list_insert (F.args_list_insert_3 _ _ _) (AutoListH.list_insert_list_int_val_1 a vs m 0 t w (by decide) (by rw [sizeLine_eq]; (first | (simp +arith only; done) | lia | omega))) ⟨g, ?_⟩
  obtain ⟨m', e⟩ : ∃ m', Obj.mapSeq (fun xs => have k := if (0 : Int) < 0 then ((0 : Int) + ((xs.size : Nat) : Int)).toNat else min (0 : Int).toNat xs.size; (xs.extract 0 k).push w ++ xs.extract k) ⟨.type "list", none, .seq vs m, #[]⟩ = ⟨.type "list", none, .seq (#[w] ++ vs) m', #[]⟩ := by
    simp [Obj.mapSeq]
  refine h _ (#[w] ++ vs) m' (Heap.SameBut.update ..) ((Heap.get?_update_self _ g (by rw [e]; rfl)).trans (congrArg some e)) ?_
  rw [Array.toList_append]
  exact .cons ra r
theorem X1.write (slot : PySem.Slot "list" nm id) (hty : typeOf (.builtin id) = pure (.type "method_descriptor")) (hp : ∀ (env : Env) (pos : Pos), (backTo pos (starEach es env)).any (·.1) = false) (hg : EvL c n sc (hide Γ) T es ds T') (hw : Wr c id l ds l')
    (he : ∀ env : Env, eval (.Call (.Attribute (.Name x px) nm apos) es [] cpos) env = (do let ov ← eval (.Name x px) env; standAt apos.atName; let (f, first) ← holding [ov] (getMethod ov nm (plOf (.Name x px) env)); callWith cpos f first (backTo cpos (starEach es env)) (backToKw cpos (keywordEach [] env))))
    (hk : sc[k]? = some (x, kd)) (hl : k < Γ.length) (hd : ((x == ("__debug__" : Str)) || (x == ("__classdict__" : Str))) = false) (ho : gget Γ k = some (.own l)) (hn : hide (Γ.set k none) = Γ.set k none) :
    X1 c n sc ow Γ T (.Expr (.Call (.Attribute (.Name x px) nm apos) es [] cpos) pos) .next (Γ.set k (some (.own l'))) T' := fun P A env s X₀ W K₀ RP E J => by
  obtain ⟨a, vs, m, b, w, g, r⟩ := J.ownAt hk ho
  refine wpAny_Expr (methodCall_KW (name_load J.preS hk ho hd fun v b' _ => ?_) (he env)) (by unfold interactive; rw [J.es.fk']; rfl) rfl
  have : v = .ref a := by
    cases kd with
    | «local» => obtain ⟨m, hn, e⟩ := b; obtain ⟨m', hn', e'⟩ := b'; exact Option.some.inj ((e'.symm.trans (hn'.agree hn x)).trans e)
    | cell => obtain ⟨q, e, o, g, hd⟩ := b; obtain ⟨q', e', o', g', hd'⟩ := b'; cases e.symm.trans e'; cases g.symm.trans g'; cases hd.symm.trans hd'; rfl
    | free => obtain ⟨q, e, o, g, hd⟩ := b; obtain ⟨q', e', o', g', hd'⟩ := b'; cases e.symm.trans e'; cases g.symm.trans g'; cases hd.symm.trans hd'; rfl
    | globalExplicit => exact b.elim
    | globalImplicit => exact b.elim
  subst this
  refine getMethod_builtin ⟨_, g, rfl⟩ F.plainAttrs_list slot hty (fun _ e => by cases e; exact ⟨_, g, rfl⟩) (callWith_run (first := [.ref a]) J.pre Keep3.builtin hp hg fun s₁ us p1 o1 ru => ?_)
  have J1 := J.out o1 p1.pc.sp
  have g1 := kept_of o1 J.pc.sp g fun _ f => nomatch f
  exact hw P A s₁ _ a vs m us _ _ (J.pc.a.mono (Nat.zero_le _)) g1 (r.imp fun _ _ z => z.stable (o1.stable J.pc.sp)) ru fun h' vs' m' sb g' r' => ⟨⟨W, J1.own (tk := s₁.toks) hk hl hn (o1.bound J.pc.sp b) w g1 sb g' r'⟩, rfl⟩
end
end
noncomputable section
open PySem PySem.W PyProof.Rows PyProof.Rows.LSm
section
variable {c : Cx} {P : Sp} {n m : Nat} {T T' T'' T₁ T₂ T₃ : TS} {s s' s'' : Shared} {X X₀ X₁ Y W W' B : Addr → Prop} {K₀ K₁ : Addr → Obj → Prop} {sc sc' : Scp} {ow ow' : List Str} {A : Around} {env : Env} {Γ Γ' Γ₁ Γ₂ : Gam} {d d₁ d₂ d₃ : PyData} {dd : D} {v : Value} {sl : Slot} {E : Value → Shared → Prop} {e idx elt test iter : PySem.Expr} {h h' : Heap} {RP : Shared → (Addr → Prop) → Prop}
  {t : PySem.Expr} {l l' : List PyData} {ds : List D} {i j k : Nat} {z : Int} {x y nm : Str} {pos px spos apos cpos : Pos} {fl : Fl} {kd kd' : NameKind} {a C : Addr} {es : List PySem.Expr} {id : String} {fs : Flds}
theorem own_ref {u : Value} (b : Bound h env x u kd) (b' : Bound h env x v kd) : v = u := by
  cases kd with
  | «local» => obtain ⟨m, hn, e⟩ := b; obtain ⟨m', hn', e'⟩ := b'; exact Option.some.inj ((e'.symm.trans (hn'.agree hn x)).trans e)
  | cell => obtain ⟨q, e, o, g, hd⟩ := b; obtain ⟨q', e', o', g', hd'⟩ := b'; cases e.symm.trans e'; cases g.symm.trans g'; cases hd.symm.trans hd'; rfl
  | free => obtain ⟨q, e, o, g, hd⟩ := b; obtain ⟨q', e', o', g', hd'⟩ := b'; cases e.symm.trans e'; cases g.symm.trans g'; cases hd.symm.trans hd'; rfl
  | globalExplicit => exact b.elim
  | globalImplicit => exact b.elim
theorem setItem_at {vs : Array Value} {t : Tok} {Q : Unit → Shared → Prop} (g : s.heap.get? a = some ⟨.type "list", none, .seq vs m, #[]⟩) (h0 : 0 ≤ z) (hn : z.toNat < vs.size) (hs : vs.size ≤ 1000000)
    (h : ∀ h' m', Heap.SameBut a s.heap h' → h'.get? a = some ⟨.type "list", none, .seq (vs.setIfInBounds z.toNat v) m', #[]⟩ → Q () { s with heap := h' }) : wpAny c.M A (setItem (.ref a) (.int z t) v) Q E s := by
  have hl : s.heap.IsList a vs := ⟨_, g, rfl, _, rfl⟩
  unfold setItem
  try with_reducible refine wpAny_holding ?_
  first | refine wpAny_bind (wpAny_pure ?_) | skip
  refine wpAny_bind (wpAny_sequenceKey hl.typeIs (by decide) ?_)
  refine wpAny_bind (wpAny_callSpecial?_slot (name := Str.ofString "__setitem__") hl.typeIs slot_list_setitem
    (wpAny_call_entry slot_list_setitem hl.typeIs entry_list_setitem ?_ (args_list_setitem _ _ _)))
  show wpAny _ _ (Builtin.List.listSubscript? (.int z t) >>= _) _ _ s
  refine wpAny_bind (wpAny_listSubscript_int (fitsIndex_of h0 (by (first | (simp +arith only; done) | lia | omega))) ?_)
  obtain ⟨j, rfl⟩ := Int.eq_ofNat_of_zero_le h0
  have hj : j < vs.size := hn
  have hx' : vs[j]? = some vs[j] := Array.getElem?_eq_getElem hj
  show wpAny _ _ ((seqItemAt a j >>= fun r => pure (r.map (j, ·))) >>= _) _ _ s
  refine wpAny_bind (wpAny_bind (wpAny_seqItemAt g rfl (wpAny_pure ?_)))
  rw [hx']
  show wpAny _ _ (setSeqItemAt a j v >>= _) _ _ s
  have e : Obj.mapSeq (·.setIfInBounds j v) ⟨.type "list", none, .seq vs m, #[]⟩ = ⟨.type "list", none, .seq (vs.setIfInBounds j v) m, #[]⟩ := by
    simp [Obj.mapSeq]
  have fin := h _ m (Heap.SameBut.update ..) ((Heap.get?_update_self _ g (by rw [e]; rfl)).trans (congrArg some e))
  refine wpAny_bind (wpAny_setSeqItemAt g rfl ?_)
  first
    | exact wpAny_bind (wpAny_pure (wpAny_pure ⟨.none, rfl, wpAny_pure fin⟩))
    | exact wpAny_pure ⟨.none, rfl, wpAny_pure fin⟩
theorem All2.set {β : Type} {R : Value → β → Prop} {vs ds} {b : β} (r : All2 R vs ds) (q : R v b) (i : Nat) : All2 R (vs.set i v) (ds.set i b) := by
  induction r generalizing i with
  | nil => exact .nil
  | cons x y ih =>
    cases i with
    | zero => exact .cons q y
    | succ i => exact .cons x (ih i)
theorem X1.setItem (h : Ev c n sc Γ T e (.p d) T₁) (hf : Flt d) (hi : Ev c n sc (hide Γ) T₁ idx (.p (.int z)) T₂) (hz : 0 ≤ z ∧ z.toNat < l.length ∧ l.length ≤ 1000000)
    (hk : sc[k]? = some (x, kd)) (hl : k < Γ.length) (hd : ((x == ("__debug__" : Str)) || (x == ("__classdict__" : Str))) = false) (ho : gget Γ k = some (.own l)) (hn : hide (Γ.set k none) = Γ.set k none)
    (hsw : ∀ env, swapsWith e (some (.Subscript (.Name x px) idx spos)) pos.line env = pure false) :
    X1 c n sc ow Γ T (.Assign [.Subscript (.Name x px) idx spos] e pos) .next (Γ.set k (some (.own (l.set z.toNat d)))) T₂ := fun P A env s X₀ W K₀ RP E J =>
  wpAny_Assign_Subscript (J.evS h fun v s₁ J₁ r₁ => by
    obtain ⟨a, vs, m, b, w, g, r⟩ := J₁.ownAt hk ho
    refine name_load J₁.preS hk ho hd fun u b' _ => ?_
    cases own_ref b b'
    refine hi.run J₁.pre fun iv s₂ p o ri => ?_
    obtain ⟨t, rfl⟩ := RdP.inv ri
    have r₂ := r.imp fun _ _ z => z.stable (o.stable J₁.pc.sp)
    have len := r.length
    simp only [Array.length_toList] at len
    refine setItem_at (kept_of o J₁.pc.sp g fun _ f => nomatch f) hz.1 (by (first | (simp +arith only; done) | lia | omega)) (by (first | (simp +arith only; done) | lia | omega)) fun h' m' sb g' => ⟨⟨W, (J₁.out o p.pc.sp).own (tk := s₂.toks) hk hl hn (o.bound J₁.pc.sp b) w (kept_of o J₁.pc.sp g fun _ f => nomatch f) sb g' ?_⟩, rfl⟩
    rw [Array.toList_setIfInBounds]
    exact r₂.set ((hf _ _ _ _ r₁).stable (o.stable J₁.pc.sp)) _) (hsw env)
theorem X1.augItem {op : Operator} (hi : Ev c n sc (hide Γ) T idx (.p (.int z)) T₁) (h : Ev c n sc (hide Γ) T₁ e (.p d₂) T₂) (hop : ∀ A s (Q : Value → Shared → Prop) E X v u, RdP s.heap X v d₁ → RdP s.heap X u d₂ → (∀ w tk, RdP s.heap X w d₃ → Q w { s with toks := tk }) → wpAny c.M A (inplaceOp op v u) Q E s)
    (hz : 0 ≤ z ∧ l[z.toNat]? = some d₁ ∧ l.length ≤ 1000000) (hk : sc[k]? = some (x, kd)) (hl : k < Γ.length) (hd : ((x == ("__debug__" : Str)) || (x == ("__classdict__" : Str))) = false) (ho : gget Γ k = some (.own l)) (hn : hide (Γ.set k none) = Γ.set k none)
    (ha : ∀ ov iv new, augStore idx ov iv new = (do holding [new, ov, iv] (PySem.setItem ov iv new); release [new, ov, iv] []; pure .next)) :
    X1 c n sc ow Γ T (.AugAssign (.Subscript (.Name x px) idx spos) op e pos) .next (Γ.set k (some (.own (l.set z.toNat d₃)))) T₂ := fun P A env s X₀ W K₀ RP E J => by
  obtain ⟨a, vs, m, b, w, g, r⟩ := J.ownAt hk ho
  refine wpAny_AugAssign_SubscriptAny (name_load J.preS hk ho hd fun u b' _ => ?_) ha
  cases own_ref b b'
  refine hi.run J.pre fun iv s₁ p o ri => ?_
  obtain ⟨t, rfl⟩ := RdP.inv ri
  have J₁ := J.out o p.pc.sp
  have g₁ := kept_of o J.pc.sp g fun _ f => nomatch f
  have r₁ := r.imp fun _ _ z => z.stable (o.stable J.pc.sp)
  obtain ⟨q, eq, rq⟩ := r₁.get hz.2.1
  have len := r.length
  simp only [Array.length_toList] at len
  have hlt := (List.getElem?_eq_some_iff.mp hz.2.1).1
  refine wpAny_getItem_list ⟨_, g₁, rfl, _, rfl⟩ hz.1 (by (first | (simp +arith only; done) | lia | omega)) (by simpa using eq) (h.run J₁.pre fun u s₂ p₂ o₂ r₂ => hop _ _ _ _ _ _ _ (rq.stable (o₂.stable J₁.pc.sp)) r₂ fun w' tk rw => ?_)
  have g₂ := kept_of o₂ J₁.pc.sp g₁ fun _ f => nomatch f
  have J₂ := (J₁.out o₂ p₂.pc.sp).all (tk := tk) fun _ _ e => e
  refine setItem_at g₂ hz.1 (by (first | (simp +arith only; done) | lia | omega)) (by (first | (simp +arith only; done) | lia | omega)) fun h' m' sb g' => ⟨⟨W, J₂.own (tk := tk) hk hl hn (o₂.bound J₁.pc.sp (o.bound J.pc.sp b)) w g₂ sb g' ?_⟩, rfl⟩
  rw [Array.toList_setIfInBounds]
  exact (r₁.imp fun _ _ z => z.stable (o₂.stable J₁.pc.sp)).set rw _
theorem X1.three {x1 x2 x3 : Str} {p1 p2 p3 : Pos} {k1 k2 k3 : Nat} (h : Ev c n sc (hide Γ) T e (.p d) T') (hf : Flt d) (h1 : sc[k1]? = some (x1, .local)) (h2 : sc[k2]? = some (x2, .local)) (h3 : sc[k3]? = some (x3, .local)) (hl : k1 < Γ.length ∧ k2 < Γ.length ∧ k3 < Γ.length)
    (he : ∀ env, (assignEach [.Name x1 p1, .Name x2 p2, .Name x3 p3] env).map (·.2) = [PySem.assign (.Name x1 p1) env, PySem.assign (.Name x2 p2) env, PySem.assign (.Name x3 p3) env]) (hw : ∀ env, swappedStores [.Name x1 p1, .Name x2 p2, .Name x3 p3] e env = pure none) :
    X1 c n sc ow Γ T (.Assign [.Name x1 p1, .Name x2 p2, .Name x3 p3] e pos) .next (((Γ.set k1 (some (.v (.p d)))).set k2 (some (.v (.p d)))).set k3 (some (.v (.p d)))) T' := fun P A env s X₀ W K₀ RP E J =>
  wpAny_Assign_three (J.ev h fun v s₁ J₁ r => wpAny_assign_Name (J₁.store h1 hl.1 (.inl rfl) (sl := .v (.p d)) r fun s₂ J₂ st => wpAny_assign_Name (J₂.store h2 (by rw [List.length_set]; exact hl.2.1) (.inl rfl) (sl := .v (.p d)) (RdP.stable r st) fun s₃ J₃ st' =>
    wpAny_assign_Name (J₃.store h3 (by rw [List.length_set, List.length_set]; exact hl.2.2) (.inl rfl) (sl := .v (.p d)) (RdP.stable (RdP.stable r st) st') fun s₄ J₄ _ => ⟨⟨_, J₄⟩, rfl⟩)))) (he env) (hw env)
theorem store_own {A' : Around} {dx ax tk : Nat} {R : Result → Shared → Prop} {mm : Str → Option Value} (K : c.K.In s.heap) (o : c.OK) (hx : s.heap.get? ax = some ⟨.ref c.C, some dx, .plain, #[]⟩) (hns : s.heap.Ns1 dx mm) (hn : findIn c.K (.ref c.C) nm = some none) {ns : List Str} (hw : Within mm ns) (hl : ns.length ≤ 1000)
    (h : ∀ h', h'.Ns1 dx (fun y => if y = nm then some v else mm y) → Heap.SameBut dx s.heap h' → R (.ok (.ret .none)) { s with heap := h', toks := s.toks + 1 }) : codeAny c.M A' (.call (.builtin "object.__setattr__") ⟨[.ref ax, .str nm tk, v], []⟩) R s := by
  obtain ⟨od, _, _, g, _⟩ := hns.ns
  refine osa_open K (ox := ⟨.ref c.C, some dx, .plain, #[]⟩) (od := some od) ⟨hx, rfl, rfl, g⟩ o.po (r := none) (by unfold takerIn; rw [hn]; rfl) fun b => ?_
  obtain ⟨cd, hc, hd'⟩ := any_some o.hd
  refine wpAny_bind (wpAny_pure (wpAny_bind (wpAny_bind (wpAny_loadPart hx (wpAny_bind ((looks_clsIn K hc).here ?_))))))
  rw [hd']
  refine wpAny_pure (a := some dx) (wpAny_bind (wpAny_pure (wpAny_bind (wpAny_nsSet1 hns fun h' hn' sb => ?_))))
  obtain ⟨oD, esD, epD, hoD, hdD, hcD⟩ := hn'.count (Within.cons nm v hw)
  exact wpAny_bind (wpAny_lookBehind hoD (by rw [hdD]; exact pastItsLine_dict (Nat.le_trans hcD (by rw [List.length_cons, sizeLine_eq]; (first | (simp +arith only; done) | lia | omega)))) (wpAny_pure (h h' hn' sb)))
theorem X1.selfSet (h : Ev c n sc Γ T e (.p d) T₁) (hf : Flt d) (hT : T₁.self = some fs) (hk : sc[k]? = some (x, kd)) (hg : gget Γ k = some (.v .self)) (hd : ((x == ("__debug__" : Str)) || (x == ("__classdict__" : Str))) = false) (hn : findIn c.K (.ref c.C) nm = some none) (hl : fs.length ≤ 1000)
    (hsw : ∀ env, swapsWith e (some (.Attribute (.Name x px) nm spos)) pos.line env = pure false) :
    X1 c n sc ow Γ T (.Assign [.Attribute (.Name x px) nm spos] e pos) .next Γ ⟨T₁.tape, some ((nm, d) :: fs)⟩ := fun P A env s X₀ W K₀ RP E J =>
  plainObj_wpAny_Assign_Attribute (J.evS h fun v s₁ J₁ r₁ => name_load J₁.preS hk hg hd fun u _ ru => by
    cases (ru : _ = _)
    obtain ⟨x1, x2, x3, mm, hx, hns, q3, q4⟩ := J₁.pc.sp.self fs hT
    have ws : Within mm (fs.map (·.1)) := fun y hy => by
      cases e : fs.lookup y with
      | none => exact absurd (q4 y e) hy
      | some d => exact List.mem_map.mpr ⟨_, PySem.mem_of_lookup e, rfl⟩
    obtain ⟨od, _, _, g, gd, _⟩ := hns.ns
    have xd : X₀ P.dx := J₁.sx.2.resolve_left fun z => nomatch hT.symm.trans z
    have td : ∀ bs, T₁.tape = some bs → P.dx ≠ P.τ := fun bs e z => by
      obtain ⟨_, f⟩ := (J₁.pc.sp.tape bs e).2.2.tau (z ▸ g) |>.2
      cases gd.symm.trans f
    have K := J₁.pc.st.k J₁.pc.ok
    refine set_plain (E := E) K (ox := ⟨.ref c.C, some P.dx, .plain, #[]⟩) (od := some od) ⟨hx, rfl, rfl, g⟩ J₁.pc.ok.sa (store_own (s := { s₁ with toks := s₁.toks + 1 }) K J₁.pc.ok hx hns hn ws (by rw [List.length_map]; exact hl) fun h' hns' sb => ?_)
    have J₀ : Inv c P n sc ow A env s₁ X₀ W K₀ RP none Γ ⟨T₁.tape, none⟩ := { J₁ with
      pc := { J₁.pc with sp := ⟨J₁.pc.sp.tape, fun _ e => nomatch e⟩ }
      sx := ⟨J₁.sx.1, .inl rfl⟩
      kp := fun b o z => ⟨(J₁.kp b o z).1, (J₁.kp b o z).2.1, (J₁.kp b o z).2.2.1, fun _ => rfl⟩ }
    have kc : Chg c P (· = P.dx) X₀ ⟨T₁.tape, none⟩ s₁ { s₁ with heap := h', toks := s₁.toks + 1 + 1 } := ⟨⟨_, _, rfl⟩, fun b o e hb => (sb.2 b hb).trans e, fun b hb => by
      cases hb
      exact ⟨xd, x2, fun z => by
        cases ht : T₁.tape with
        | none => rfl
        | some bs => exact absurd z (td bs ht), fun _ => rfl⟩, fun b o hb e z => by
      cases hb
      cases g.symm.trans e
      exact z.2.elim fun _ z => z.elim fun _ z => (nomatch gd.symm.trans z)⟩
    have Jn := J₀.chg kc (fun b o z hb => nomatch hT.symm.trans ((J₁.kp b o z).2.2.2 hb)) (fun b o v hb e z => by
      cases hb
      cases g.symm.trans e
      cases gd.symm.trans z) (fun a z => ⟨z, fun hb => hb ▸ (let ⟨o, _, _, e, _⟩ := hns'.ns; ⟨o, e⟩)⟩) ⟨J₀.sx.1, .inl rfl⟩
    have xdx : P.x ≠ P.dx := fun z => by
      cases (z ▸ hx).symm.trans g
      cases gd
    have st : Stable (Un X₀ W) s₁.heap h' := fun b o e z => (sb.2 b fun hb => by
      cases hb
      obtain ⟨_, _, z⟩ := (z (.inl xd)).2
      cases g.symm.trans e
      cases gd.symm.trans z).trans e
    exact ⟨⟨W, { Jn with
      pc := { Jn.pc with sp := ⟨Jn.pc.sp.tape, fun fs' e => by
        cases e
        refine ⟨x1, x2, x3, _, (sb.2 _ xdx).trans hx, hns', fun y d' e => ?_, fun y e => ?_⟩
        · rw [List.lookup_cons] at e
          by_cases hy : y = nm
          · subst hy
            rw [beq_self_eq_true] at e
            cases e
            exact ⟨v, if_pos rfl, (hf _ _ _ _ r₁).stable st⟩
          · rw [beq_eq_false_iff_ne.mpr hy] at e
            exact (q3 y d' e).imp fun u q => ⟨(if_neg hy).trans q.1, q.2.stable st⟩
        · rw [List.lookup_cons] at e
          by_cases hy : y = nm
          · subst hy
            rw [beq_self_eq_true] at e
            cases e
          · rw [beq_eq_false_iff_ne.mpr hy] at e
            exact (if_neg hy).trans (q4 y e)⟩ }
      sx := ⟨Jn.sx.1, .inr xd⟩
      kp := fun b o z => ⟨(Jn.kp b o z).1, (Jn.kp b o z).2.1, (Jn.kp b o z).2.2.1, fun hb => nomatch hT.symm.trans ((J₁.kp b o z).2.2.2 hb)⟩ }⟩, rfl⟩) (hsw env)
end
end
noncomputable section
open PySem PySem.W PyProof.Rows PyProof.Rows.LSm
section
variable {c : Cx} {P : Sp} {n m : Nat} {T T' T'' T₁ T₂ T₃ : TS} {s s' s'' : Shared} {X X₀ X₁ Y W W' B : Addr → Prop} {K₀ K₁ : Addr → Obj → Prop} {sc sc' : Scp} {ow ow' : List Str} {A : Around} {env : Env} {Γ Γ' Γ₁ Γ₂ : Gam} {d d₁ d₂ d₃ : PyData} {dd : D} {v : Value} {sl : Slot} {E : Value → Shared → Prop} {h h' : Heap} {RP : Shared → (Addr → Prop) → Prop}
  {ds : List D} {i j k : Nat} {x y nm : Str} {fl : Fl} {kd kd' : NameKind} {a fa : Addr} {fs : Flds} {fd : FuncData} {body : List Stmt} {kf : Str → Option NameKind} {binds : List (Str × Value)} {vs : List Value} {pn : List Str}
theorem bind_other {b : Bool} (g : List (Str × Value) → (Str → Option Value) → Str → Option Value) (g0 : ∀ m, g [] m = m) (gs : ∀ p r m, g (p :: r) m = g r (if (if kf p.1 = some .local then b = true else b = false) then fun y => if y = p.1 then some p.2 else m y else m)) (m : Str → Option Value) (hx : x ∉ binds.map (·.1)) : g binds m x = m x := by
  induction binds generalizing m with
  | nil => rw [g0]
  | cons p r ih =>
    rw [gs, ih _ fun z => hx (List.mem_cons_of_mem _ z)]
    by_cases q : (if kf p.1 = some .local then b = true else b = false)
    · rw [if_pos q]
      exact if_neg fun e => hx (List.mem_cons.mpr (.inl e))
    · rw [if_neg q]
theorem bind_get {b : Bool} (g : List (Str × Value) → (Str → Option Value) → Str → Option Value) (g0 : ∀ m, g [] m = m) (gs : ∀ p r m, g (p :: r) m = g r (if (if kf p.1 = some .local then b = true else b = false) then fun y => if y = p.1 then some p.2 else m y else m)) (m : Str → Option Value) (hn : (binds.map (·.1)).Nodup) (hm : (x, v) ∈ binds) (hk : if kf x = some .local then b = true else b = false) : g binds m x = some v := by
  induction binds generalizing m with
  | nil => cases hm
  | cons p r ih =>
    obtain ⟨h1, h2⟩ := List.nodup_cons.mp hn
    rw [gs]
    rcases List.mem_cons.mp hm with e | hm
    · cases e
      rw [bind_other g g0 gs _ h1, if_pos hk]
      exact if_pos rfl
    · exact ih _ h2 hm
theorem bindL_step (p : Str × Value) (r : List (Str × Value)) (m : Str → Option Value) : bindL kf (p :: r) m = bindL kf r (if (if kf p.1 = some .local then true = true else true = false) then fun y => if y = p.1 then some p.2 else m y else m) := by
  show bindL kf r (if kf p.1 = some .local then fun y => if y = p.1 then some p.2 else m y else m) = _
  by_cases h : kf p.1 = some .local
  · rw [if_pos h, if_pos (by rw [if_pos h])]
  · rw [if_neg h, if_neg (by rw [if_neg h]; decide)]
theorem bindC_step (p : Str × Value) (r : List (Str × Value)) (m : Str → Option Value) : bindC kf (p :: r) m = bindC kf r (if (if kf p.1 = some .local then false = true else false = false) then fun y => if y = p.1 then some p.2 else m y else m) := by
  show bindC kf r (if kf p.1 = some .local then m else fun y => if y = p.1 then some p.2 else m y) = _
  by_cases h : kf p.1 = some .local
  · rw [if_pos h, if_neg (by rw [if_pos h]; decide)]
  · rw [if_neg h, if_pos (by rw [if_neg h])]
structure FnOK (fd : FuncData) (sc : Scp) (ow : List Str) (body : List Stmt) (pn : List Str) : Prop where
  hb : fd.body = .stmts body
  hsc : fd.scope.names = sc
  gl : fd.globals = mainGlobals
  bl : fd.builtins = builtinsNs
  clo : fd.closure = []
  co : fd.scope.isCoroutine = false
  gen : fd.scope.isGenerator = false
  kind : fd.scope.kind = .function
  nd : (sc.map (·.1)).Nodup
  how : ∀ x ∈ ow, (x, .cell) ∈ sc
  nf : ∀ p ∈ sc, p.2 ≠ .free
  hpn : pn = (sc.take pn.length).map (·.1)
  pk : ∀ k x kd, k < pn.length → sc[k]? = some (x, kd) → kd = .local ∨ kd = .cell
  bind : ∀ vs : List Value, vs.length = pn.length → bindArgs fd ⟨vs, []⟩ = pure (pn.zip vs)
noncomputable def fnG (ds : List D) : Gam := ds.map fun d => some (.v d)
theorem AOK.deeper (h : AOK (n + 1) A) : AOK n (A.deeper env) := ⟨h.1, by have := h.2.1; show A.depth + 1 + _ ≤ _; (first | (simp +arith only; done) | lia | omega), by have := h.2.2; show A.units + 3 + _ ≤ _; (first | (simp +arith only; done) | lia | omega)⟩
theorem All2.at {R : Value → D → Prop} {vs ds} (r : All2 R vs ds) {k : Nat} {d : D} (h : ds[k]? = some d) : ∃ v, vs[k]? = some v ∧ R v d := r.get h
theorem fn_run {R : Result → Shared → Prop} {o : Obj} (q : FnOK fd sc ow body pn) (ho : s.heap.get? fa = some o) (hd : o.data = .func fd) (hcd : s.heap.CodeRec fd.code fd.qualname) (p : PreC c P (n + 1) A s X T) (r : All2 (Rd c P s.heap X) vs ds) (hl : ds.length = pn.length) (hΓ : Le Γ (fnG ds))
    (ex : ∀ A' env' s₁ W' E, Inv c P n sc ow A' env' s₁ X W' (fun b o => s.heap.get? b = some o ∧ (b = P.τ → T.tape = none) ∧ (b = P.dx → T.self = none)) (fun s' _ => ∃ h tk, s' = { s with heap := h, toks := tk }) none Γ T → wpAny c.M A' (execs body env') (fun f s' => R (.ok (.ret (match f with | .ret v => v | _ => .none))) s') E s₁) :
    codeAny c.M A (.call (.ref fa) ⟨vs, []⟩) R s := by
  have lv : vs.length = pn.length := r.length.trans hl
  have hzp : ((pn.zip vs).map (·.1)) = pn := List.map_fst_zip (Nat.le_of_eq lv.symm)
  have pnd : pn.Nodup := by
    rw [q.hpn]
    exact q.nd.sublist ((List.take_sublist _ _).map _)
  have at' : ∀ {k x v}, pn[k]? = some x → vs[k]? = some v → (x, v) ∈ pn.zip vs := fun {k x v} h1 h2 => List.mem_of_getElem? (i := k) (List.getElem?_zip_eq_some.mpr ⟨h1, h2⟩)
  have of' : ∀ y ∈ pn.zip vs, ∃ k kd, sc[k]? = some (y.1, kd) ∧ k < pn.length := fun y hy => by
    obtain ⟨k, e⟩ := List.getElem?_of_mem hy
    obtain ⟨e1, e2⟩ := List.getElem?_zip_eq_some.mp e
    have hk := (List.getElem?_eq_some_iff.mp e1).1
    rw [q.hpn, List.getElem?_map, List.getElem?_take, if_pos hk] at e1
    obtain ⟨⟨y', kd⟩, e3, e4⟩ := Option.map_eq_some_iff.mp e1
    exact ⟨k, kd, by rw [e3, ← e4], hk⟩
  have cellsOK : ∀ {k x}, (x, NameKind.cell) ∈ sc → ∃ a, (cellsFrom k sc []).lookup x = some a := fun hx => (cellsFrom_has _ hx).elim fun a z => lookup_has z
  have kind : ∀ {x kd}, (x, kd) ∈ sc → sc.lookup x = some kd := fun hx => lookup_nodup _ q.nd hx
  refine codeAny_call_cells (by have := p.a.2.1; rw [show recursionLimit = 1000 from rfl]; (first | (simp +arith only; done) | lia | omega)) ho hd (p.ok.nl.keeps p.st) hcd q.hb (q.bind vs lv) q.clo (fun y hy => ?_) (fun s₁ I => ?_) q.co q.gen q.kind
  · obtain ⟨k, kd, e, hk⟩ := of' y hy
    have m := List.mem_of_getElem? e
    rw [q.hsc]
    rcases q.pk k _ kd hk e with rfl | rfl
    · exact .inl (kind m)
    · exact .inr ⟨kind m, (cellsOK m).elim fun a z => by rw [z]; rfl⟩
  · obtain ⟨⟨sm, ns, kp, _⟩, ce, ap, ab⟩ := I
    have hz : (callEnvC fd s.heap.objs.size fa).kindOf = fun x => sc.lookup x := by funext x; unfold Env.kindOf; show fd.scope.names.lookup x = _; rw [q.hsc]
    have ecs : (callEnvC fd s.heap.objs.size fa).cells = cellsFrom (s.heap.objs.size + 1) sc [] := by show cellsFrom _ fd.scope.names [] = _; rw [q.hsc]
    have w0 : ∀ b, s.heap.get? b = none → c.h₀.get? b = none := fun b z => by
      cases e : c.h₀.get? b with
      | none => rfl
      | some ob => exact nomatch z.symm.trans (p.st b ob e)
    have o₁ : Out P T T s s₁ := by obtain ⟨_, _, rfl⟩ := sm; exact Out.all kp
    have cm : ∀ {x}, (x, NameKind.cell) ∈ sc → ∃ a, (callEnvC fd s.heap.objs.size fa).cells.lookup x = some a := fun hx => ecs ▸ cellsOK hx
    have W0 : ∀ b, (b = s.heap.objs.size ∨ ∃ x, (callEnvC fd s.heap.objs.size fa).cells.lookup x = some b) → s.heap.get? b = none ∧ ∃ ob, s₁.heap.get? b = some ob := fun b z => by
      rcases z with rfl | ⟨x, z⟩
      · obtain ⟨o, _, _, g, _⟩ := ns; exact ⟨none_of_size (Nat.le_refl _), o, g⟩
      · exact ⟨none_of_size (Nat.le_of_lt (ab x b (PySem.mem_of_lookup z))), (ce x b z).imp fun _ z => z.1⟩
    have wx : ∀ b, (b = s.heap.objs.size ∨ ∃ x, (callEnvC fd s.heap.objs.size fa).cells.lookup x = some b) → ¬ X b := fun b z x => (p.xlt b x).elim fun _ g => nomatch (W0 b z).1.symm.trans g
    obtain ⟨p₁, rd⟩ := p.outX o₁ (p.sp.keeps kp) (Y := Un X fun b => b = s.heap.objs.size ∨ ∃ x, (callEnvC fd s.heap.objs.size fa).cells.lookup x = some b) (fun b z => .inl z) fun b z => z.imp_right (W0 b)
    have J : Inv c P n sc ow (A.deeper (callEnvC fd s.heap.objs.size fa)) (callEnvC fd s.heap.objs.size fa) s₁ X (fun b => b = s.heap.objs.size ∨ ∃ x, (callEnvC fd s.heap.objs.size fa).cells.lookup x = some b)
        (fun b o => s.heap.get? b = some o ∧ (b = P.τ → T.tape = none) ∧ (b = P.dx → T.self = none)) (fun s' _ => ∃ h tk, s' = { s with heap := h, toks := tk }) none Γ T :=
      ⟨{ p₁ with a := p.a.deeper }, ⟨q.hsc, q.kind, q.nd, q.gl, q.bl, fun x kd hx e => e.elim (fun e => cm (e ▸ hx)) fun e => absurd e (q.nf _ hx), fun x y a h1 h2 => name_of_addr ap (PySem.mem_of_lookup h1) (PySem.mem_of_lookup h2)⟩, fun x a z => ⟨_, ce x a z⟩,
        fun a w => ⟨w0 a (W0 a w).1, wx a w⟩, ⟨?_, ?_⟩, ⟨.inl rfl, _, ns⟩, fun x hx => (cm (q.how x hx)).imp fun a z => ⟨_, z, .inr ⟨x, z⟩, ce x a z⟩, fun b o z => ⟨kp b o z.1, fun w => (nomatch (W0 b w).1.symm.trans z.1), z.2⟩,
        fun _ _ _ _ z sm _ _ => by obtain ⟨_, _, rfl⟩ := z; obtain ⟨_, _, rfl⟩ := sm; exact ⟨_, _, rfl⟩, sm, fun _ e => (nomatch e), fun k x kd sl h1 h2 => ?_⟩
    · exact ex _ _ _ _ _ J
    · cases ht : T.tape with
      | none => exact .inl rfl
      | some bs => exact .inr (p.sp.tape bs ht).1
    · cases ht : T.self with
      | none => exact .inl rfl
      | some fs => exact .inr (p.sp.self fs ht).1
    · have h3 := hΓ k sl h2
      obtain ⟨d, e1, rfl⟩ : ∃ d, ds[k]? = some d ∧ sl = .v d := by
        unfold gget fnG at h3
        rw [List.getElem?_map] at h3
        cases e : ds[k]? with
        | none => rw [e] at h3; cases h3
        | some d => rw [e] at h3; cases h3; exact ⟨d, rfl, rfl⟩
      obtain ⟨v, e2, rv⟩ := r.get e1
      have hk : k < pn.length := hl ▸ (List.getElem?_eq_some_iff.mp e1).1
      have e3 : pn[k]? = some x := by rw [q.hpn, List.getElem?_map, List.getElem?_take, if_pos hk, h1]; rfl
      have m := at' e3 e2
      have mm := List.mem_of_getElem? h1
      refine ⟨v, ?_, rd v d rv⟩
      rcases q.pk k x kd hk h1 with rfl | rfl
      · exact ⟨_, ns, bind_get (b := true) (bindL (callEnvC fd s.heap.objs.size fa).kindOf) (fun _ => rfl) bindL_step _ (hzp.symm ▸ pnd) m ((if_pos (show (callEnvC fd s.heap.objs.size fa).kindOf x = some .local by rw [hz]; exact kind mm)).mpr rfl)⟩
      · refine (cm mm).imp fun a z => ⟨z, ?_⟩
        have := ce x a z
        rwa [bind_get (b := false) (bindC (callEnvC fd s.heap.objs.size fa).kindOf) (fun _ => rfl) bindC_step _ (hzp.symm ▸ pnd) m ((if_neg (show ¬ (callEnvC fd s.heap.objs.size fa).kindOf x = some .local by rw [hz]; dsimp only; rw [kind mm]; decide)).mpr rfl)] at this
theorem fn_body {R : Result → Shared → Prop} {o : Obj} (q : FnOK fd sc ow body pn) (ho : s.heap.get? fa = some o) (hd : o.data = .func fd) (hcd : s.heap.CodeRec fd.code fd.qualname) (p : PreC c P (n + 1) A s X T) (r : All2 (Rd c P s.heap X) vs ds) (hl : ds.length = pn.length) (hΓ : Le Γ (fnG ds)) (ex : Ex c n sc ow Γ T body fl Γ' T')
    (h : ∀ v s' W', (∃ A' env', Inv c P n sc ow A' env' s' X W' (fun b o => s.heap.get? b = some o ∧ (b = P.τ → T.tape = none) ∧ (b = P.dx → T.self = none)) (fun s' _ => ∃ h tk, s' = { s with heap := h, toks := tk }) none Γ' T') → (match fl with | .ret d => Rd c P s'.heap X v d | _ => v = .none) → R (.ok (.ret v)) s') :
    codeAny c.M A (.call (.ref fa) ⟨vs, []⟩) R s :=
  fn_run q ho hd hcd p r hl hΓ fun _ _ _ _ _ J => wpAny_mono (ex _ _ _ _ _ _ _ _ _ J) (fun f s' z => by
    obtain ⟨⟨W', J'⟩, hf⟩ := z
    cases fl with
    | next => cases (hf : _ = _); exact h _ _ W' ⟨_, _, J'⟩ rfl
    | brk => cases (hf : _ = _); exact h _ _ W' ⟨_, _, J'⟩ rfl
    | ret d => obtain ⟨v, rfl, r⟩ := hf; exact h _ _ W' ⟨_, _, J'⟩ r) fun _ _ e => e
end
end
noncomputable section
open PySem PySem.W PyProof.Rows PyProof.Rows.LSm
section
variable {c : Cx} {P : Sp} {n m : Nat} {T T' T'' T₁ T₂ T₃ : TS} {s s' s'' : Shared} {X X₀ X₁ Y W W' B : Addr → Prop} {sc sc' : Scp} {ow ow' : List Str} {A : Around} {env : Env} {Γ Γ' Γ₁ Γ₂ : Gam} {d d₁ d₂ d₃ : PyData} {dd : D} {v : Value} {E : Value → Shared → Prop} {h h' : Heap}
  {ds : List D} {nm : Str} {a fa : Addr} {fs : Flds} {fd : FuncData} {body : List Stmt} {pn : List Str} {o : Obj} {fl : Fl}
noncomputable def Gives (fl : Fl) (d : D) : Prop := fl = .ret d ∨ (fl = .next ∨ fl = .brk) ∧ d = .p .none
theorem Call.fn (q : FnOK fd sc ow body pn) (ho : c.h₀.get? fa = some o) (hd : o.data = .func fd) (hcd : c.h₀.CodeRec fd.code fd.qualname) (hl : ds.length = pn.length) (ex : Ex c n sc ow (fnG ds) T body fl Γ' T') (hf : Gives fl dd)
    (hT : (T.tape = none ↔ T'.tape = none) ∧ T'.self = none ∧ T.self = none) : Call c (n + 1) (.ref fa) ds T dd T' := fun P A s X vs E p r =>
  wpAny_call (fn_body q (p.st _ _ ho) hd (hcd.keeps p.st) p r hl (fun _ _ z => z) ex fun v s' W' J hv => by
    obtain ⟨A', env', J⟩ := J
    have rd : Rd c P s'.heap X v dd := by
      rcases hf with rfl | ⟨rfl | rfl, rfl⟩
      · exact hv
      · cases (hv : v = .none); exact RdP.nul
      · cases (hv : v = .none); exact RdP.nul
    have o' : Out P T T' s s' := ⟨J.rp, fun b ob e hb => (J.kp b ob ⟨e, hb, fun _ => hT.2.2⟩).1, hT.1, hT.2.1.trans hT.2.2.symm⟩
    refine ⟨o', ⟨fun bs e => (J.pc.sp.tape bs e).imp (fun _ => J.sx.1.resolve_left fun z => (nomatch e.symm.trans z)) fun z => z, fun fs e => (nomatch hT.2.1.symm.trans e)⟩, rd⟩)
theorem AOK.tc {C : Addr} {l : List Value} (k : AOK (n + 1) A) : AOK n (A.under (.builtin "type.__call__" ⟨.ref C :: l, []⟩)) := by
  have w : (Code.builtin "type.__call__" ⟨.ref C :: l, []⟩).weight ≤ 1 := Nat.le_of_ble_eq_true (by kernel_rfl)
  have u : (Code.builtin "type.__call__" ⟨.ref C :: l, []⟩).cUnits ≤ 20 := Nat.le_of_ble_eq_true (by kernel_rfl)
  refine ⟨k.1, ?_, ?_⟩
  · have := k.2.1
    show A.depth + (Code.builtin "type.__call__" ⟨.ref C :: l, []⟩).weight + 20 * n ≤ 900
    (first | (simp +arith only; done) | lia | omega)
  · have := k.2.2
    show A.units + (Code.builtin "type.__call__" ⟨.ref C :: l, []⟩).cUnits + 60 * n ≤ 8000
    (first | (simp +arith only; done) | lia | omega)
theorem rd_re {P P' : Sp} {X : Addr → Prop} {d : D} (hd : d ≠ .tape ∧ d ≠ .self) (r : Rd c P h X v d) : Rd c P' h X v d := by
  cases d with
  | tape => exact absurd rfl hd.1
  | self => exact absurd rfl hd.2
  | p _ => exact r
  | ws _ => exact r
  | wsl _ => exact r
theorem Call.cls {fI : Addr} (hi : findIn c.K (.ref c.C) "__init__" = some (some (.ref fI))) (hf : typeIn c.K (.ref fI) = some (.type "function")) (q : FnOK fd sc ow body pn) (ho : c.h₀.get? fI = some o) (hd : o.data = .func fd) (hcd : c.h₀.CodeRec fd.code fd.qualname) (hl : ds.length + 1 = pn.length)
    (hds : ∀ d ∈ ds, d ≠ .tape ∧ d ≠ .self) (ex : Ex c n sc ow (fnG (.self :: ds)) ⟨none, some []⟩ body .next Γ' ⟨none, some fs⟩) : Call c (n + 2) (.ref c.C) ds ⟨none, none⟩ (.ws fs) ⟨none, none⟩ := fun P A s X vs E p r => by
  refine wpAny_call ?_
  obtain ⟨hh, g, dr, t, os⟩ := s
  have K := p.st.k p.ok
  refine make_core (makes_of K p.ok.mkc) (looks_findIn K hi) (fun self => bind_fn K self hf) (.inl rfl) ?_
  have kp : Keep hh ((hh.push emptyDict).push (instObj c.C hh.objs.size)) := fun b o e => Heap.get?_push_of_some _ (Heap.get?_push_of_some _ e)
  have gd : ((hh.push emptyDict).push (instObj c.C hh.objs.size)).Ns1 hh.objs.size fun _ => none := by
    refine (Heap.Ns1.keeps ?_ fun b o e => Heap.get?_push_of_some _ e)
    exact ⟨_, _, _, Heap.get?_push_size hh rfl, rfl, (fun e he => absurd he (by simp)), .nil, fun _ => rfl⟩
  have gx : ((hh.push emptyDict).push (instObj c.C hh.objs.size)).get? (hh.objs.size + 1) = some (instObj c.C hh.objs.size) := by
    rw [show hh.objs.size + 1 = (hh.push emptyDict).objs.size from (Heap.size_push ..).symm]
    exact Heap.get?_push_size _ rfl
  have n0 : ∀ b, hh.objs.size ≤ b → c.h₀.get? b = none := fun b z => by
    cases e : c.h₀.get? b with
    | none => rfl
    | some ob => exact nomatch (none_of_size z).symm.trans (p.st b ob e)
  have nX : ∀ b, hh.objs.size ≤ b → ¬ X b := fun b z x => (p.xlt b x).elim fun _ e => nomatch (none_of_size z).symm.trans e
  have p' : PreC c ⟨P.τ, hh.objs.size + 1, hh.objs.size⟩ (n + 1) (A.under (.builtin "type.__call__" ⟨.ref c.C :: vs, []⟩)) ⟨(hh.push emptyDict).push (instObj c.C hh.objs.size), g, dr, t, os⟩ (fun b => X b ∨ b = hh.objs.size) ⟨none, some []⟩ :=
    ⟨p.ok, p.a.tc, fun b o e => kp b o (p.st b o e), fun b z => z.elim (fun z => (p.xlt b z).imp fun o e => kp b o e) fun z => by cases z; exact (let ⟨o, _, _, e, _⟩ := gd.ns; ⟨o, e⟩), fun bs e => (nomatch e), fun fs e => by
      cases e
      exact ⟨.inr rfl, n0 _ (Nat.le_refl _), fun z => z.elim (nX _ (Nat.le_succ _)) fun z => Nat.succ_ne_self _ z, _, gx, gd, fun _ _ e => (nomatch e), fun _ _ => rfl⟩⟩
  have r' : All2 (Rd c ⟨P.τ, hh.objs.size + 1, hh.objs.size⟩ ((hh.push emptyDict).push (instObj c.C hh.objs.size)) (fun b => X b ∨ b = hh.objs.size)) (.ref (hh.objs.size + 1) :: vs) (.self :: ds) := by
    refine .cons rfl ?_
    clear ex hl p'
    induction r with
    | nil => exact .nil
    | cons x _ ih =>
      refine .cons (rd_re (P := P) (hds _ (List.mem_cons_self ..)) ?_) (ih fun d hd => hds d (List.mem_cons_of_mem _ hd))
      exact (x.gro (Y := fun b => X b ∨ b = hh.objs.size) fun b z => z.imp_right fun z => none_of_size (Nat.le_of_eq z.symm)).stable fun b o e _ => kp b o e
  refine fn_body q (kp _ _ (p.st _ _ ho)) hd (hcd.keeps fun b o e => kp b o (p.st b o e)) p' r' (by simpa using hl) (fun _ _ z => z) ex fun v s' W' J hv => ?_
  obtain ⟨A', env', J⟩ := J
  cases (hv : v = .none)
  refine ⟨rfl, ?_⟩
  obtain ⟨_, _, x3, ob⟩ := J.pc.sp.self fs rfl
  refine ⟨⟨?_, fun b o e hb => (J.kp b o ⟨kp b o e, fun _ => rfl, fun z => by rw [z] at e; exact (nomatch (none_of_size (Nat.le_refl _)).symm.trans e)⟩).1, Iff.rfl, rfl⟩, ⟨fun _ e => (nomatch e), fun _ e => (nomatch e)⟩, ?_⟩
  · obtain ⟨_, _, rfl⟩ := J.rp; exact ⟨_, _, rfl⟩
  · exact ⟨_, _, rfl, nX _ (Nat.le_succ _), nX _ (Nat.le_refl _), ob.mono (fun _ e => e) (fun _ e => e) fun v d r => r.anti fun b z => .inl (.inl z)⟩
end
end
noncomputable section
open PySem PySem.W PyProof.Rows PyProof.Rows.LSm PySem.Spec PyProof.V PySem.Calls
section
variable {c : Cx} {P : Sp} {n m : Nat} {T T' T'' T₁ T₂ T₃ : TS} {s s' s'' : Shared} {X X₀ X₁ Y W W' B : Addr → Prop} {K₀ : Addr → Obj → Prop} {RP : Shared → (Addr → Prop) → Prop} {sc sc' : Scp} {ow ow' : List Str} {A : Around} {env : Env} {Γ Γ' Γ₁ Γ₂ : Gam} {d d₁ d₂ d₃ : PyData} {dd : D} {v : Value} {E : Value → Shared → Prop} {h h' : Heap}
  {ds : List D} {x y nm : Str} {a fa D₀ : Addr} {fs : Flds} {fl : Fl} {e : PySem.Expr} {es : List PySem.Expr} {pos np apos : Pos} {i j : Int} {k b : Nat} {bs : List Nat} {slice : PySem.Expr} {kd : NameKind} {l l' : List PyData}
theorem Call.lenT (q : l.length ≤ 1000000) : Call c n (.builtin "len") [.p (.tuple l)] T (.p (.int l.length)) T := .one fun _ _ _ _ _ _ p ra => by
  obtain ⟨a, o, vs, m, rfl, g, hc, hd, r⟩ := RdP.inv ra
  have e := r.length
  simp only [Array.length_toList] at e
  rw [← e] at q ⊢
  exact len_tuple ⟨o, g, hc, m, hd⟩ (by (first | (simp +arith only; done) | lia | omega)) (PostE.tok p.sp _ (RdP.int _ _))
theorem flat_rd {D₁ : PyData} (f : Flat v D₁) : RdP h X v D₁ := ⟨[], f h, fun _ m => nomatch m⟩
theorem Ev.entryT {tab : List (PyData × PyData)} (hs : Plains (.Name nm np) slice) (hx : sc.lookup nm = some .globalImplicit) (hd : (nm == ("__debug__" : Str)) = false) (hv : c.mg nm = some (.ref D₀)) (ht : StrTab c.prog c.w c.h₀ D₀ tab)
    (hr : Ev c n sc Γ T slice (.p (.str x)) T') (e : lookup (.str x) tab = some (.int i)) (hg : ∀ r, letTemporaryGo (.Name nm np) (.ref D₀) r = pure ()) : Ev c n sc Γ T (.Subscript (.Name nm np) slice pos) (.p (.int i)) T' :=
  fun _ _ _ _ _ _ p => Subscript_ (glob_load p hx hd (.inl hv) (hr.run p fun _ _ p1 o1 r1 => by
    obtain ⟨u, rfl⟩ := RdP.inv r1
    exact item_strTab (ht.keep p1.pc.st) e (fun v f => ⟨o1.trans (Out.all fun _ _ e => e), p1.pc.sp, flat_rd f⟩) (hs _ _) hg))
theorem Ev.dictGet {tab : List (PyData × PyData)} (hx : sc.lookup nm = some .globalImplicit) (hd : (nm == ("__debug__" : Str)) = false) (hv : c.mg nm = some (.ref D₀)) (ht : IntTab c.prog c.w c.h₀ D₀ tab)
    (hp : ∀ (env : Env) (pos : Pos), (backTo pos (starEach es env)).any (·.1) = false) (hg : EvL c n sc Γ T es [.p (.int i), .p (.str x)] T')
    (he : ∀ env : Env, eval (.Call (.Attribute (.Name nm np) "get" apos) es [] pos) env = (do let ov ← eval (.Name nm np) env; standAt apos.atName; let (f, first) ← holding [ov] (getMethod ov "get" (plOf (.Name nm np) env)); callWith pos f first (backTo pos (starEach es env)) (backToKw pos (keywordEach [] env)))) :
    Ev c n sc Γ T (.Call (.Attribute (.Name nm np) "get" apos) es [] pos) (.p ((lookup (.int i) tab).getD (.str x))) T' :=
  fun _ _ env _ _ _ p => methodCall_KW (glob_load p hx hd (.inl hv) (getMethod_intTab_get (ht.keep p.pc.st) (callWith_run (first := [.ref D₀]) p Keep3.builtin hp hg fun s₁ vs p1 o1 r1 => by
    obtain ⟨u, us, rfl, ra, r⟩ := r1.cons_inv
    obtain ⟨w, us, rfl, rb, r⟩ := r.cons_inv
    cases r
    obtain ⟨t, rfl⟩ := RdP.inv ra
    obtain ⟨t', rfl⟩ := RdP.inv rb
    exact call_get2_intTab (ht.keep p1.pc.st) (fun _ => .str x t') fun v f => ⟨o1.trans (Out.all fun _ _ e => e), p1.pc.sp, flat_rd f⟩))) (he env)
theorem tape_out {tk : Nat} {b₂ : List Nat} (q : SpOK c P s.heap X ⟨some bs, none⟩) (sb : Heap.SameBut P.τ s.heap h') (t : TapeAt h' P.τ b₂) : Out P ⟨some bs, none⟩ ⟨some b₂, none⟩ s { s with heap := h', toks := tk } ∧ SpOK c P h' X ⟨some b₂, none⟩ :=
  ⟨⟨⟨_, _, rfl⟩, fun b o e hb => (sb.2 b fun z => nomatch hb z).trans e, ⟨fun z => (nomatch z), fun z => (nomatch z)⟩, rfl⟩, fun b e => by cases e; exact ⟨(q.tape _ rfl).1, (q.tape _ rfl).2.1, t⟩, fun _ e => (nomatch e)⟩
theorem Call.next : Call c n (.builtin "next") [.tape] ⟨some (b :: bs), none⟩ (.p (.int b)) ⟨some bs, none⟩ := .one fun P A s X v E p ra => by
  cases (ra : _ = _)
  obtain ⟨_, _, d, vs, sl, g, q⟩ := p.sp.tape _ rfl
  rcases q with ⟨B, t, i, rfl, e⟩ | ⟨e, _⟩
  · have hit : KBw.IsBytesIter s.heap P.τ B t i := ⟨_, g, rfl, rfl⟩
    obtain ⟨cc, e1, e2⟩ : ∃ cc, B[i]? = some cc ∧ cc.toNat = b := by
      have h0 : ((B.toList.drop i).map (·.toNat))[0]? = some b := by rw [← e]; rfl
      rw [List.getElem?_map, List.getElem?_drop, Nat.add_zero, Array.getElem?_toList] at h0
      obtain ⟨cc, e1, e2⟩ := Option.map_eq_some_iff.mp h0
      exact ⟨cc, e1, e2⟩
    have e3 : bs = (B.toList.drop (i + 1)).map (·.toNat) := by
      have := congrArg List.tail e
      rwa [List.tail_cons, ← List.map_tail, List.tail_drop] at this
    subst e2
    refine call_function_entry (by decide +kernel) (by decide +kernel) kdk_entry_next (kdk_args_next _) ?_
    unfold Builtin.«next»
    refine wpAny_bind (m := someArgs "next" 1 2 _) (wpAny_of_eq (a := [Value.ref P.τ]) (by first | rfl | kernel_rfl!) ?_)
    dsimp only
    refine wpAny_bind (wpAny_specialOf (name := Str.ofString "__next__") (KBw.iter_typeIs hit) KBw.slot_next.lookup ?_)
    refine wpAny_ite_split (fun hab => absurd hab (by decide)) (fun _ => ?_)
    refine wpAny_bind (wpAny_callSpecial?_slot (name := PySem.Str.ofString "__next__") (KBw.iter_typeIs hit) KBw.slot_next (wpAny_call_entry KBw.slot_next (KBw.iter_typeIs hit) KBw.entry_next ?_ (KBw.args_next _)))
    show wpAny _ _ (field (.ref P.τ) 0 >>= _) _ _ s
    refine wpAny_bind (wpAny_field g rfl (x := .bytes B t) rfl ?_)
    show wpAny _ _ (if (Value.bytes B t == Value.none) = true then _ else _) _ _ s
    rw [if_neg (show ¬ ((Value.bytes B t == Value.none) = true) from Bool.false_ne_true)]
    show wpAny _ _ (field (.ref P.τ) 1 >>= _) _ _ s
    refine wpAny_bind (wpAny_field g rfl (x := .int i 0) rfl ?_)
    refine wpAny_bind (wpAny_of_eq (a := B) rfl ?_)
    simp only [Int.toNat_natCast, e1]
    have hd : (⟨.type "bytes_iterator", d, .fields #[.bytes B t, .int (Int.ofNat i) 0], sl⟩ : Obj).data = .fields #[.bytes B t, .int (Int.ofNat i) 0] := rfl
    refine wpAny_bind (wpAny_setField g hd (by simp) (wpAny_bind (wpAny_mkInt (wpAny_pure ⟨_, rfl, wpAny_pure ⟨_, rfl, ?_⟩⟩))))
    have tp : TapeAt (s.heap.update P.τ (Obj.mapFields fun x => x.setIfInBounds 1 (rawInt (↑i + 1)))) P.τ bs :=
      ⟨d, #[.bytes B t, .int (Int.ofNat (i + 1)) 0], sl, (Heap.get?_update_self _ g (Obj.isFreed_of_fields (Obj.data_mapFields hd _))).trans (congrArg some (by simp [Obj.mapFields, rawInt])), .inl ⟨B, t, i + 1, rfl, e3⟩⟩
    obtain ⟨o, sp⟩ := tape_out (tk := s.toks + 1) p.sp (Heap.SameBut.update ..) tp
    exact ⟨o, sp, RdP.int _ _⟩
  · cases e
end
end
noncomputable section
open PySem PySem.W PyProof.Rows PyProof.Rows.LSm PySem.Spec PyProof.V PySem.Calls
section
variable {c : Cx} {P : Sp} {n m : Nat} {T T' T'' T₁ T₂ T₃ : TS} {s s' s'' : Shared} {X X₀ X₁ Y W W' B : Addr → Prop} {K₀ : Addr → Obj → Prop} {RP : Shared → (Addr → Prop) → Prop} {sc sc' : Scp} {ow ow' : List Str} {A : Around} {env : Env} {Γ Γ' Γ₁ Γ₂ : Gam} {d d₁ d₂ d₃ : PyData} {dd : D} {v : Value} {E : Value → Shared → Prop} {h h' : Heap}
  {ds : List D} {x y nm : Str} {a fa D₀ : Addr} {fs : Flds} {fl : Fl} {e : PySem.Expr} {es : List PySem.Expr} {pos np apos : Pos} {i j : Int} {k b : Nat} {bs : List Nat} {slice : PySem.Expr} {kd : NameKind} {l l' : List PyData}
theorem bi_no_len : typeLookup (.type "bytes_iterator") "__len__" = pure none := by rw [typeLookup_type, builtinLookup_eq_fast]; kernel_rfl
theorem bi_hint : typeLookup (.type "bytes_iterator") "__length_hint__" = pure (some (.builtin "bytes_iterator.__length_hint__")) := by rw [typeLookup_type, builtinLookup_eq_fast]; kernel_rfl
theorem TapeAt.type (t : TapeAt s.heap a bs) : s.TypeIs (.ref a) "bytes_iterator" := let ⟨_, _, _, g, _⟩ := t; ⟨_, g, rfl⟩
theorem tape_end {Q : Option Value → Shared → Prop} (hh : A.handled = none) (t : TapeAt s.heap a []) (hQ : ∀ h', TapeAt h' a [] → Heap.ExtBut a s.heap h' → Q none { s with heap := h' }) : wpAny c.M A (pyNext (.ref a)) Q E s := by
  have ty := t.type
  obtain ⟨dd, vs, sl', g, q⟩ := id t
  have stop : ∀ (α : Type) (F : α → Shared → Prop) h₁, TapeAt h₁ a [] → Heap.ExtBut a s.heap h₁ → wpAny c.M A.in1 (Builtin.SmallTypes.stopIteration : Sem α) F (fun x s' => wpAny c.M A (do if ← isInstance x (.type "StopIteration") then pure none else throw x) Q E s') { s with heap := h₁ } := fun α F h₁ t₁ k₁ => by
    show wpAny _ _ (newExc (.type "StopIteration") [] >>= _) _ _ _
    refine wpAny_bind ?_
    simp only [newExc, newTuple]
    refine wpAny_bind (wpAny_newObj_type ?_ (by size_fits))
    refine wpAny_bind (m := firstArgMember _ _) (wpAny_of_eq (a := Value.none) (by first | rfl | (simp only [firstArgMember]; rfl)) ?_)
    refine wpAny_newObj_type ?_ (by size_fits)
    simp only [raiseNew]
    refine wpAny_bind (wpAny_handled ?_)
    rw [show A.in1.handled = none from hh]
    refine wpAny_bind (wpAny_pure (wpAny_throw ?_))
    refine wpAny_bind (wpAny_isInstance (T := "StopIteration") (b := true) ⟨_, Heap.get?_push_size _ rfl, rfl⟩ isSubtype_stop ?_)
    refine wpAny_pure (hQ _ ?_ ((k₁.push _).push _))
    exact t₁.imp fun _ z => z.imp fun _ z => z.imp fun _ z => z.imp_left fun g => Heap.get?_push_of_some _ (Heap.get?_push_of_some _ g)
  unfold pyNext
  refine wpAny_bind (wpAny_attempt (wpAny_callSpecial?_slot (name := PySem.Str.ofString "__next__") ty KBw.slot_next
    (wpAny_call_entry KBw.slot_next ty KBw.entry_next ?_ (KBw.args_next _))))
  show wpAny _ _ (field (.ref a) 0 >>= _) _ _ s
  rcases q with ⟨B, t, i, rfl, e⟩ | ⟨_, v, rfl⟩
  · refine wpAny_bind (wpAny_field g rfl (x := .bytes B t) rfl ?_)
    show wpAny _ _ (if (Value.bytes B t == Value.none) = true then _ else _) _ _ s
    rw [if_neg (show ¬ ((Value.bytes B t == Value.none) = true) from Bool.false_ne_true)]
    show wpAny _ _ (field (.ref a) 1 >>= _) _ _ s
    refine wpAny_bind (wpAny_field g rfl (x := .int i 0) rfl ?_)
    refine wpAny_bind (wpAny_of_eq (a := B) rfl ?_)
    have e1 : B[i]? = none := by
      have := List.map_eq_nil_iff.mp e.symm
      rw [List.drop_eq_nil_iff, Array.length_toList] at this
      exact Array.getElem?_eq_none this
    simp only [Int.toNat_natCast, e1]
    have hd : (⟨.type "bytes_iterator", dd, .fields #[.bytes B t, .int (Int.ofNat i) 0], sl'⟩ : Obj).data = .fields #[.bytes B t, .int (Int.ofNat i) 0] := rfl
    refine wpAny_bind (wpAny_rule (wpAny_bind (wpAny_setField g hd (by simp) ?_)))
    refine wpAny_mono (stop _ (fun _ _ => False) _ ⟨dd, #[.none, .int (Int.ofNat i) 0], sl', (Heap.get?_update_self _ g (Obj.isFreed_of_fields (Obj.data_mapFields hd _))).trans (congrArg some (by simp [Obj.mapFields])), .inr ⟨rfl, _, rfl⟩⟩ (Heap.SameBut.update ..).extBut) (fun _ _ f => f.elim) fun _ _ z => z
  · refine wpAny_bind (wpAny_field g rfl (x := .none) rfl ?_)
    show wpAny _ _ (if (Value.none == Value.none) = true then _ else _) _ _ s
    rw [if_pos (by rfl)]
    refine wpAny_bind (wpAny_rule ?_)
    exact wpAny_bind (stop _ _ _ t fun _ _ _ e => e)
theorem hint_tape {Q : Bool → Shared → Prop} (t : TapeAt s.heap a bs) (h : Q false s) : wpAny c.M A (Builtin.List.listLengthHint (.ref a)) Q E s := by
  unfold Builtin.List.listLengthHint
  refine wpAny_bind (wpAny_specialOf t.type bi_no_len ?_)
  show wpAny _ A (specialOf (Value.ref a) (Str.ofString "__length_hint__") >>= _) _ _ _
  refine wpAny_bind (wpAny_specialOf t.type bi_hint ?_)
  generalize hid : ("bytes_iterator.__length_hint__" : String) = id0
  wp_delta
  rw [show splitId id0 = some ("bytes_iterator", "__length_hint__") from by subst hid; decide +kernel]
  subst hid
  refine wpAny_bind (wpAny_isInstance (T := "bytes_iterator") (b := true) t.type (by rw [isSubtype_type]; kernel_rfl) ?_)
  refine wpAny_ite_split (fun hab => absurd hab (by decide)) (fun _ => ?_)
  refine wpAny_ite_split (fun _ => ?_) (fun hab => absurd (by decide +kernel) hab)
  refine wpAny_ite_split (fun hab => absurd hab (by decide +kernel)) (fun _ => wpAny_pure h)
theorem Call.listTape : Call c n (.type "list") [.tape] ⟨some [], none⟩ (.p (.list [])) ⟨some [], none⟩ := .one fun P A s X v E p ra => by
  cases (ra : _ = _)
  obtain ⟨x1, x2, t⟩ := p.sp.tape _ rfl
  refine callType_codes (Q₁ := fun obj s₁ => obj = .ref s.heap.objs.size ∧ s₁ = { s with heap := s.heap.push { cls := .type "list", data := .seq #[] } }) F.called_list (F.typeCall_list_1 _) F.entry_list_init
    (code_list_new _ ⟨rfl, rfl⟩) fun obj s₁ h₁ => ?_
  obtain ⟨rfl, rfl⟩ := h₁
  have hS : (s.heap.push { cls := .type "list", data := .seq #[] }).get? s.heap.objs.size = some { cls := .type "list", data := .seq #[] } := Heap.get?_push_size _ rfl
  have ne : s.heap.objs.size ≠ P.τ := fun z => by
    obtain ⟨_, _, _, g, _⟩ := t
    exact Nat.lt_irrefl _ (z ▸ Heap.lt_size g)
  refine ⟨⟨_, hS, rfl⟩, F.args_list_init_2 _ _, ?_⟩
  show wpAny _ A.in1.in1 (do let old ← Builtin.List.listItems (.ref s.heap.objs.size); Builtin.List.listUpdate (.ref s.heap.objs.size) (fun _ => #[]); letGo old.toList.reverse; Builtin.List.listExtendWith (.ref s.heap.objs.size) (.ref P.τ) .none) _ _ _
  refine wpAny_bind ?_
  unfold Builtin.List.listItems
  refine wpAny_bind (wpAny_seqItems hS rfl (wpAny_pure ?_))
  show wpAny _ _ (updateSeq s.heap.objs.size (fun _ => #[]) >>= fun _ => letGo (#[] : Array Value).toList.reverse >>= fun _ => Builtin.List.listExtendWith (.ref s.heap.objs.size) (.ref P.τ) .none) _ _ _
  refine wpAny_bind (wpAny_updateSeq hS rfl ?_)
  have hS₂ := Heap.get?_update_self (Obj.mapSeq (fun _ => (#[] : Array Value))) hS rfl
  refine wpAny_bind (wpAny_letGo ?_)
  generalize hh : (s.heap.push { cls := .type "list", data := .seq #[] }).update s.heap.objs.size (Obj.mapSeq (fun _ => (#[] : Array Value))) = h₂ at hS₂
  have k₂ : ∀ b o, b ≠ s.heap.objs.size → s.heap.get? b = some o → h₂.get? b = some o := fun b o hb e => hh ▸ (Heap.get?_update_other _ _ (Ne.symm hb)).trans (Heap.get?_push_of_some _ e)
  have t₂ : TapeAt h₂ P.τ [] := t.imp fun _ z => z.imp fun _ z => z.imp fun _ z => z.imp_left (k₂ _ _ (Ne.symm ne))
  unfold Builtin.List.listExtendWith
  refine wpAny_bind (wpAny_typeOf t₂.type ?_)
  have h1 : Builtin.List.listSameRef (.ref s.heap.objs.size) (.ref P.τ) = false := by simp [Builtin.List.listSameRef, ne]
  have h2 : (Value.type "bytes_iterator" == Value.type "list") = false := by decide
  have h3 : (Value.type "bytes_iterator" == Value.type "tuple") = false := by decide
  simp only [h1, h2, h3, Bool.or_false, Bool.false_eq_true, if_false]
  have self : ∀ {A : Around} {Q : Value → Shared → Prop} {E : Value → Shared → Prop}, Q (.ref P.τ) { s with heap := h₂ } → wpAny c.M A (pyIter (.ref P.τ)) Q E { s with heap := h₂ } := fun hq => by
    have ty : ({ s with heap := h₂ } : Shared).TypeIs (.ref P.τ) "bytes_iterator" := t₂.type
    refine wpAny_pyIter_slot ty KBw.slot_self (wpAny_call_entry KBw.slot_self ty KBw.entry_self ?_ (KBw.args_self _))
    show wpAny _ _ (ret (.ref P.τ)) _ _ _
    exact wpAny_pure ⟨_, rfl, "bytes_iterator", _, ty, KBw.slot_next.lookup, hq⟩
  refine wpAny_bind (self ?_)
  refine wpAny_bind (wpAny_holding (hint_tape t₂ ?_))
  refine wpAny_ite_split (fun hab => absurd hab (by decide)) (fun _ => ?_)
  refine wpAny_pure ⟨plainId_quiet F.plain_extend_loop _, codeAny_builtin F.entry_extend_loop ?_⟩
  rw [Around.under_plainId F.plain_extend_loop _]
  show wpAny _ _ (pyNext (.ref P.τ) >>= _) _ _ _
  refine wpAny_bind (tape_end (s := { s with heap := h₂ }) (by exact p.a.1) t₂ fun h' t' k' => wpAny_pure ?_)
  have gS := k' _ _ ne hS₂
  have kp : ∀ b o, b ≠ P.τ → s.heap.get? b = some o → h'.get? b = some o := fun b o hb e => k' b o hb (k₂ b o (Nat.ne_of_lt (Heap.lt_size e)) e)
  refine ⟨rfl, ⟨⟨⟨_, s.toks, rfl⟩, fun b o e hb => kp b o (fun z => nomatch hb z) e, ⟨fun z => (nomatch z), fun z => (nomatch z)⟩, rfl⟩, ⟨fun b e => by cases e; exact ⟨x1, x2, t'⟩, fun _ e => (nomatch e)⟩, RdP.list ⟨_, #[], _, _, rfl, fresh_not p.xlt (Nat.le_refl _), gS, .nil⟩⟩⟩
end
end
noncomputable section
open PySem PySem.W PyProof.Rows PyProof.Rows.LSm PySem.Spec PyProof.V PySem.Calls
section
variable {c : Cx} {P : Sp} {n m : Nat} {T T' T'' T₁ T₂ T₃ : TS} {s s' s'' : Shared} {X X₀ X₁ Y W W' B : Addr → Prop} {K₀ : Addr → Obj → Prop} {RP : Shared → (Addr → Prop) → Prop} {sc sc' : Scp} {ow ow' : List Str} {A : Around} {env : Env} {Γ Γ' Γ₁ Γ₂ : Gam} {d d₁ d₂ d₃ : PyData} {dd : D} {v : Value} {E : Value → Shared → Prop} {h h' : Heap}
  {ds : List D} {x y nm : Str} {a fa D₀ : Addr} {fs : Flds} {fl : Fl} {e idx : PySem.Expr} {es : List PySem.Expr} {pos np px spos apos cpos : Pos} {i j z : Int} {k b : Nat} {bs : List Nat} {slice : PySem.Expr} {kd kd' : NameKind} {l l' : List PyData} {id : String}
structure Fst (l : List PyData) (d : PyData) (j : Nat) : Prop where
  at_ : l[j]? = some d
  no : ∀ m x, m < j → l[m]? = some x → x ≠ d
theorem All2.eraseIdx {β : Type} {R : Value → β → Prop} {vs ds} (r : All2 R vs ds) (i : Nat) : All2 R (vs.eraseIdx i) (ds.eraseIdx i) := by
  induction r generalizing i with
  | nil => exact .nil
  | cons x y ih =>
    cases i with
    | zero => exact y
    | succ i => exact .cons x (ih i)
theorem all2_of {β : Type} {R : Value → β → Prop} : ∀ {vs : List Value} {ds : List β}, vs.length = ds.length → (∀ (i : Nat) v d, vs[i]? = some v → ds[i]? = some d → R v d) → All2 R vs ds := fun {vs} => by
  induction vs with
  | nil => intro ds h _; cases ds with
    | nil => exact .nil
    | cons _ _ => cases h
  | cons v vs ih => intro ds h f; cases ds with
    | nil => cases h
    | cons d ds => exact .cons (f 0 v d rfl rfl) (ih (Nat.succ.inj h) fun i v d e1 e2 => f (i + 1) v d e1 e2)
noncomputable abbrev Hop (op : Operator) (d₁ d₂ d₃ : PyData) : Prop := ∀ {c : Cx} (A : Around) (s : Shared) (Q : Value → Shared → Prop) E X v u, RdP s.heap X v d₁ → RdP s.heap X u d₂ → (∀ w tk, RdP s.heap X w d₃ → Q w { s with toks := tk }) → wpAny c.M A (inplaceOp op v u) Q E s
theorem hopI {op : Operator} (hh : ∀ {c : Cx} (A : Around) (s : Shared) (Q : Value → Shared → Prop) E t u, Q (.int z s.toks) { s with toks := s.toks + 1 } → wpAny c.M A (inplaceOp op (.int i t) (.int j u)) Q E s) : Hop op (.int i) (.int j) (.int z) := fun _ _ _ _ _ _ _ ra rb h => by
  obtain ⟨t, rfl⟩ := RdP.inv ra
  obtain ⟨u, rfl⟩ := RdP.inv rb
  exact hh _ _ _ _ _ _ (h _ _ (RdP.int _ _))
theorem Hop.add : Hop .Add (.int i) (.int j) (.int (i + j)) := hopI fun _ _ _ _ _ _ h => wpAny_iadd_int h
theorem Hop.xor : Hop .BitXor (.int i) (.int j) (.int (Builtin.bitXor i j)) := hopI fun _ _ _ _ _ _ h => ixor_int h
theorem Hop.or : Hop .BitOr (.int i) (.int j) (.int (Builtin.bitOr i j)) := hopI fun _ _ _ _ _ _ h => ior_int h
theorem Hop.shl (q : 0 ≤ j ∧ j ≤ 1000000 ∧ i.natAbs < 2 ^ 64) : Hop .LShift (.int i) (.int j) (.int (i * 2 ^ j.toNat)) := hopI fun _ _ _ _ _ _ h => ilshift_int q.1 (by
  have := intBits_le_64 (k := i) (by (first | (simp +arith only; done) | lia | omega)) (by (first | (simp +arith only; done) | lia | omega))
  (first | (simp +arith only; done) | lia | omega)) h
theorem X1.swapped {x1 x2 : Str} {p1 p2 : Pos} {q1 k1 k2 : Nat} (hsw : ∀ env, EnvS sc env → swapsWithSole [.Tuple [.Name x1 p1, .Name x2 p2] q1 px] e pos.line env = pure false ∧ swappedStores [.Tuple [.Name x1 p1, .Name x2 p2] q1 px] e env = pure (some [x1, x2])) (h : Ev c n sc (hide Γ) T e (.p (.tuple [d₁, d₂])) T')
    (h1 : sc[k1]? = some (x1, .local)) (h2 : sc[k2]? = some (x2, .local)) (hl : k1 < Γ.length ∧ k2 < Γ.length) :
    X1 c n sc ow Γ T (.Assign [.Tuple [.Name x1 p1, .Name x2 p2] q1 px] e pos) .next ((Γ.set k2 (some (.v (.p d₂)))).set k1 (some (.v (.p d₁)))) T' := fun P A env s X₀ W K₀ RP E J => by
  refine Assign_Tuple_swapped (names := [x1, x2]) (J.ev h fun v s₁ J₁ r => ?_) (hsw env J.es).1 (hsw env J.es).2
  obtain ⟨a, o, vs, m, rfl, g, hc, hd, r⟩ := RdP.inv r
  obtain ⟨v1, vs1, e1, r1, r⟩ := r.cons_inv
  obtain ⟨v2, vs2, e2, r2, r⟩ := r.cons_inv
  cases r
  cases e2
  obtain ⟨l⟩ := vs
  cases e1
  have ht : PyProof.Rows.IsTup s₁.heap a #[v1, v2] := ⟨o, g, hc, m, hd⟩
  show wpAny c.M A (unpackItems (.ref a) (#[v1, v2] : Array Value).size none) _ _ _
  refine unpackItems_tuple J₁.pc.a.1 ht fun h' hx => ?_
  have kp : Keep s₁.heap h' := fun b ob e => hx b ob (Nat.ne_of_lt (Heap.lt_size e)) e
  have J₂ := J₁.all (tk := s₁.toks) kp
  show wpAny c.M A (assignInOrder [bindName env x2, bindName env x1] [v2, v1]) _ _ _
  refine assignInOrder_cons (bindName_ (J₂.store h2 hl.2 (.inl rfl) (sl := .v (.p d₂)) (r2.stable fun b o e _ => kp b o e) fun s₃ J₃ st => ?_))
  refine assignInOrder_cons (bindName_ (J₃.store h1 (by rw [List.length_set]; exact hl.1) (.inl rfl) (sl := .v (.p d₁)) ((r1.stable fun b o e _ => kp b o e).stable st) fun s₄ J₄ _ => ?_))
  exact assignInOrder_nil ⟨⟨_, J₄⟩, rfl⟩
end
end
noncomputable section
open PySem PySem.W PyProof.Rows PyProof.Rows.LSm PySem.Spec PyProof.V PySem.Calls
section
variable {c : Cx} {P : Sp} {n m : Nat} {T T' T'' T₁ T₂ T₃ : TS} {s s' s'' : Shared} {X X₀ X₁ Y W W' B : Addr → Prop} {K₀ : Addr → Obj → Prop} {RP : Shared → (Addr → Prop) → Prop} {sc sc' : Scp} {ow ow' : List Str} {A : Around} {env : Env} {Γ Γ' Γ₁ Γ₂ : Gam} {d d₁ d₂ d₃ : PyData} {dd : D} {v : Value} {E : Value → Shared → Prop} {h h' : Heap}
  {ds : List D} {x y nm : Str} {a fa D₀ : Addr} {fs : Flds} {fl : Fl} {e idx : PySem.Expr} {es : List PySem.Expr} {pos np px spos apos cpos : Pos} {i j z : Int} {k b : Nat} {bs : List Nat} {slice : PySem.Expr} {kd kd' : NameKind} {l l' : List PyData} {id : String} {ll : List (List PyData)}
theorem all2_off {vs : List Value} {w : Value} {Q R : Value → List PyData → Prop} (r : All2 Q vs ll) (hw : w ∉ vs) (f : ∀ v l, v ≠ w → Q v l → R v l) : All2 R vs ll := by
  induction r with
  | nil => exact .nil
  | cons x _ ih => exact .cons (f _ _ (fun z => hw (z ▸ List.mem_cons_self ..)) x) (ih fun z => hw (List.mem_cons_of_mem _ z))
theorem all2_set_own {vs : List Value} {w : Value} {l₂ : List PyData} {Q R : Value → List PyData → Prop} (r : All2 Q vs ll) (hn : vs.Nodup) (hw : vs[k]? = some w) (hq : R w l₂) (f : ∀ v l, v ≠ w → Q v l → R v l) : All2 R vs (ll.set k l₂) := by
  induction r generalizing k with
  | nil => exact .nil
  | cons x y ih =>
    obtain ⟨h1, h2⟩ := List.nodup_cons.mp hn
    cases k with
    | zero => cases hw; exact .cons hq (all2_off y h1 f)
    | succ k => exact .cons (f _ _ (fun z => h1 (z ▸ List.mem_of_getElem? hw)) x) (ih h2 hw)
theorem X1.append2 (hp : ∀ (env : Env) (pos : Pos), (backTo pos (starEach es env)).any (·.1) = false) (hi : Ev c n sc (hide Γ) T idx (.p (.int z)) T₁) (hg : EvL c n sc (hide Γ) T₁ es [.p d] T') (hz : 0 ≤ z ∧ ll[z.toNat]? = some l ∧ ll.length ≤ 1000 ∧ l.length ≤ 1000) (hs : Plains (.Name x px) idx)
    (he : ∀ env : Env, eval (.Call (.Attribute (.Subscript (.Name x px) idx spos) "append" apos) es [] cpos) env = (do let ov ← eval (.Subscript (.Name x px) idx spos) env; standAt apos.atName; let (f, first) ← holding [ov] (getMethod ov "append" (plOf (.Subscript (.Name x px) idx spos) env)); callWith cpos f first (backTo cpos (starEach es env)) (backToKw cpos (keywordEach [] env))))
    (hk : sc[k]? = some (x, .local)) (hl : k < Γ.length) (hd : ((x == ("__debug__" : Str)) || (x == ("__classdict__" : Str))) = false) (ho : gget Γ k = some (.own2 ll)) (hn : hide (Γ.set k none) = Γ.set k none) :
    X1 c n sc ow Γ T (.Expr (.Call (.Attribute (.Subscript (.Name x px) idx spos) "append" apos) es [] cpos) pos) .next (Γ.set k (some (.own2 (ll.set z.toNat (l ++ [d]))))) T' := fun P A env s X₀ W K₀ RP E J => by
  obtain ⟨v, bd, a, vs, m, rfl, wa, g, r, nd, na⟩ := J.bd k x _ _ hk ho
  refine wpAny_Expr (methodCall_KW (Subscript_ (name_load J.preS hk ho hd fun u b' _ => ?_)) (he env)) (by unfold interactive; rw [J.es.fk']; rfl) rfl
  cases own_ref bd b'
  refine hi.run J.pre fun iv s₁ p₁ o₁ ri => ?_
  obtain ⟨t, rfl⟩ := RdP.inv ri
  have J₁ := J.out o₁ p₁.pc.sp
  have g₁ := kept_of o₁ J.pc.sp g fun _ f => nomatch f
  obtain ⟨w, ew, rw₀⟩ := r.get hz.2.1
  have len := r.length
  simp only [Array.length_toList] at len
  have hlt := (List.getElem?_eq_some_iff.mp hz.2.1).1
  have hL : Heap.IsList s₁.heap a vs := ⟨_, g₁, rfl, _, rfl⟩
  refine tail_any hL.typeIs slot_list_getitem.lookup (wpAny_getItem_list hL hz.1 (by (first | (simp +arith only; done) | lia | omega)) (by simpa using ew) ?_) (hs _ _)
  obtain ⟨b, us, mb, rfl, wb, gb, rb⟩ := id rw₀
  have gb₁ := kept_of o₁ J.pc.sp gb fun _ f => nomatch f
  refine getMethod_builtin ⟨_, gb₁, rfl⟩ PySem.F.plainAttrs_list F.slot_list_append F.type_list_append (fun _ e => by cases e; exact ⟨_, gb₁, rfl⟩) (callWith_run (first := [.ref b]) p₁ Keep3.builtin hp hg fun s₂ ws p₂ o₂ rs => ?_)
  have J₂ := J₁.out o₂ p₂.pc.sp
  have o := o₁.trans o₂
  have g₂ := kept_of o₂ J₁.pc.sp g₁ fun _ f => nomatch f
  have gb₂ := kept_of o₂ J₁.pc.sp gb₁ fun _ f => nomatch f
  obtain ⟨u, _, rfl, ru, rs⟩ := rs.cons_inv
  cases rs
  have lb := rb.length
  simp only [Array.length_toList] at lb
  have ab : a ≠ b := fun e => na (e ▸ List.mem_of_getElem? ew)
  refine append_at gb₂ (fun h' sb gb' => ?_) (by rw [sizeLine_eq]; (first | (simp +arith only; done) | lia | omega))
  have kc := same_chg (tk := s₂.toks) J₂ wb gb₂ (fun z => absurd (Value.type.inj z.1) (by decide)) sb
  have kk : ∀ {b' o}, s₂.heap.get? b' = some o → (∀ vs n, o.data ≠ .seq vs n) → h'.get? b' = some o := fun e f => kc.keep _ _ e fun hb => by cases (hb ▸ e).symm.trans gb₂; exact f _ _ rfl
  have cell : ∀ {a v}, s₂.heap.IsCell a v → h'.IsCell a v := fun z => z.imp fun ob q => ⟨kk q.1 fun _ _ f => (nomatch q.2.symm.trans f), q.2⟩
  have ns : ∀ {m}, s₂.heap.Ns env.locals m → h'.Ns env.locals m := fun z => z.at fun ob q => kk q fun _ _ f => by
    obtain ⟨_, _, _, g', hd, _⟩ := z
    cases g'.symm.trans q
    cases hd.symm.trans f
  refine ⟨⟨W, J₂.put kc wb ⟨_, gb'⟩ (J₂.wl.2.imp fun _ => ns) (fun _ _ v _ z => ⟨v, cell z⟩) (fun q' e => nomatch e) fun j y kd' sl h1 h2 => ?_⟩, rfl⟩
  rw [gget_set hl] at h2
  by_cases e : j = k
  · rw [if_pos e] at h2
    cases h2; cases e; cases hk.symm.trans h1
    have st₂ : Stable (Un X₀ W) s.heap s₂.heap := o.stable J.pc.sp
    refine ⟨.ref a, ?_, a, vs, m, rfl, wa, (sb.2 a ab).trans g₂, all2_set_own r nd ew ⟨b, _, _, rfl, wb, gb', ?_⟩ fun v l hv q => ?_, nd, na⟩
    · obtain ⟨mm, hm, em⟩ := o.bound J.pc.sp bd
      exact ⟨mm, ns hm, em⟩
    · rw [Array.toList_push]
      exact ((rb.imp fun _ _ z => (RdP.stable z st₂).stable kc.stable)).append (.cons (RdP.stable ru kc.stable) .nil)
    · obtain ⟨b', us', m', rfl, wb', gb'', rb'⟩ := q
      have nb : b' ≠ b := fun e => hv (e ▸ rfl)
      exact ⟨b', us', m', rfl, wb', (sb.2 b' nb).trans (kept_of o J.pc.sp gb'' fun _ f => nomatch f), rb'.imp fun _ _ z => (RdP.stable z st₂).stable kc.stable⟩
  · rw [if_neg e] at h2
    have h3 : gget (Γ.set k none) j = some sl := by
      unfold gget at h2 ⊢
      rwa [List.getElem?_set_ne (Ne.symm e)]
    rw [← hn, hide, gget_map] at h3
    obtain ⟨sl', _, e2⟩ := Option.bind_eq_some_iff.mp h3
    cases sl' with
    | v d =>
      cases e2
      refine (J₂.bd j y kd' _ h1 h2).imp fun u z => ⟨?_, Rd.stable z.2 kc.stable⟩
      cases kd' with
      | «local» => exact z.1.imp fun _ q => ⟨ns q.1, q.2⟩
      | cell => exact z.1.imp fun _ q => ⟨q.1, cell q.2⟩
      | free => exact z.1.imp fun _ q => ⟨q.1, cell q.2⟩
      | globalExplicit => exact z.1.elim
      | globalImplicit => exact z.1.elim
    | own l => cases e2
    | own2 l => cases e2
noncomputable abbrev mt : Obj := ⟨.type "list", none, .seq #[] 0, #[]⟩
theorem empties {M : Model} (h : ∀ e ∈ es, ∃ p, e = .List [] p) : ∀ (s : Shared) (E : Value → Shared → Prop), wpAny M A (spliced (backTo pos (starEach es env))) (fun vs s' => ∃ h', s' = { s with heap := h' } ∧ Keep s.heap h' ∧ s.heap.objs.size ≤ h'.objs.size ∧ vs.length = es.length ∧ vs.Nodup ∧ ∀ v ∈ vs, ∃ a, v = .ref a ∧ s.heap.objs.size ≤ a ∧ h'.get? a = some mt) E s := by
  induction es with
  | nil => intro s E; exact wpAny_pure ⟨_, rfl, fun _ _ e => e, Nat.le_refl _, rfl, .nil, fun _ m => nomatch m⟩
  | cons e es ih =>
    intro s E
    obtain ⟨p, rfl⟩ := h e (List.mem_cons_self ..)
    rw [show starEach (.List [] p :: es) env = (false, eval (.List [] p) env) :: starEach es env from rfl]
    show wpAny M A (spliced ((false, eval (.List [] p) env) :: backTo pos (starEach es env))) _ _ _
    unfold spliced
    refine wpAny_bind (wpAny_List ?_)
    refine wpAny_mono (Q := fun vs s' => vs = [] ∧ s' = s) (show wpAny M A (spliced (backTo p (starEach [] env))) _ _ s from wpAny_pure ⟨rfl, rfl⟩) (fun vs s' q => ?_) fun _ _ e => e
    obtain ⟨rfl, rfl⟩ := q
    refine ⟨by decide, ?_⟩
    have kp : Keep s'.heap (s'.heap.push mt) := fun _ _ e => Heap.get?_push_of_some _ e
    refine wpAny_bind (wpAny_pure (wpAny_bind (wpAny_holding (wpAny_mono (ih (fun e m => h e (List.mem_cons_of_mem _ m)) { s' with heap := s'.heap.push mt } E) (fun vs s₂ q => ?_) fun _ _ e => e))))
    obtain ⟨h', rfl, k', sz, len, nd, al⟩ := q
    have sz₁ : (s'.heap.push mt).objs.size = s'.heap.objs.size + 1 := Heap.size_push ..
    refine wpAny_pure ⟨h', rfl, fun b o e => k' b o (kp b o e), by dsimp only at sz; (first | (simp +arith only; done) | lia | omega), congrArg (· + 1) len, List.nodup_cons.mpr ⟨fun m => ?_, nd⟩, fun v m => ?_⟩
    · obtain ⟨a, e, ha, _⟩ := al _ m
      cases e
      dsimp only at ha
      (first | (simp +arith only; done) | lia | omega)
    · rcases List.mem_cons.mp m with rfl | m
      · exact ⟨_, rfl, Nat.le_refl _, k' _ _ (Heap.get?_push_size _ rfl)⟩
      · obtain ⟨a, e, ha, g⟩ := al _ m
        exact ⟨a, e, by dsimp only at ha; (first | (simp +arith only; done) | lia | omega), g⟩
theorem X1.new2 (hsw : ∀ env, EnvS sc env → swapsWith (.List es px) (some (.Name x np)) spos.line env = pure false) (h : ∀ e ∈ es, ∃ p, e = PySem.Expr.List [] p) (hes : es.length ≤ 1000) (hk : sc[k]? = some (x, .local)) (hl : k < Γ.length) :
    X1 c n sc ow Γ T (.Assign [.Name x np] (.List es px) spos) .next (Γ.set k (some (.own2 (List.replicate es.length [])))) T := fun P A env s X₀ W K₀ RP E J => by
  refine wpAny_Assign_Name (wpAny_List (wpAny_mono (empties h s E) (fun vs s' q => ?_) fun _ _ e => e)) (hsw _ J.es)
  obtain ⟨h', rfl, kp, sz, len, nd, al⟩ := q
  refine ⟨Nat.le_trans (len ▸ hes) (by decide), ?_⟩
  generalize ho : (⟨.type "list", none, .seq vs.toArray 0, #[]⟩ : Obj) = ob
  have kp' : Keep s.heap (h'.push ob) := fun b o e => Heap.get?_push_of_some _ (kp b o e)
  have gl : (h'.push ob).get? h'.objs.size = some ob := Heap.get?_push_size _ (by rw [← ho]; rfl)
  have nw : ∀ b, (b = h'.objs.size ∨ .ref b ∈ vs) → s.heap.objs.size ≤ b ∧ ∃ o, (h'.push ob).get? b = some o := fun b z => by
    rcases z with rfl | z
    · exact ⟨sz, _, gl⟩
    · obtain ⟨a, e, ha, g⟩ := al _ z
      cases e
      exact ⟨ha, _, Heap.get?_push_of_some _ g⟩
  have o : Out P T T s { s with heap := h'.push ob } := Out.all (tk := s.toks) kp'
  have J' : Inv c P n sc ow A env { s with heap := h'.push ob } X₀ (fun b => W b ∨ (b = h'.objs.size ∨ .ref b ∈ vs)) K₀ RP none Γ T := J.outX o (J.pc.sp.keeps kp') (fun _ z => z) (fun _ z => .inl z)
    (fun b z => z.elim (fun z => .inl (.inl z)) fun z => z.elim (fun z => .inl (.inr z)) fun z => .inr ⟨none_of_size (nw b z).1, (nw b z).2⟩) fun b w z => w.elim (fun w => (J.wx b w).2 z) fun w => (J.pc.xlt b (.inl z)).elim fun _ f => (nomatch (none_of_size (nw b w).1).symm.trans f)
  refine J'.store hk hl (.inl rfl) (sl := .own2 (List.replicate es.length [])) ⟨_, vs.toArray, 0, rfl, .inr (.inl rfl), by rw [← ho] at gl ⊢; exact gl, ?_, nd, fun m => ?_⟩ fun s'' J'' _ => ⟨⟨_, J''⟩, rfl⟩
  · refine all2_of (by simp [len]) fun i v d e1 e2 => ?_
    obtain ⟨_, rfl⟩ := List.mem_replicate.mp (List.mem_of_getElem? e2)
    have mv : v ∈ vs := List.mem_of_getElem? (by simpa using e1)
    obtain ⟨a, rfl, ha, g⟩ := al _ mv
    exact ⟨a, #[], 0, rfl, .inr (.inr mv), Heap.get?_push_of_some _ g, .nil⟩
  · obtain ⟨a, e, _, g⟩ := al _ (show .ref h'.objs.size ∈ vs by simpa using m)
    cases e
    exact Nat.lt_irrefl _ (Heap.lt_size g)
end
end
noncomputable section
open PySem PySem.W PyProof.Rows PyProof.Rows.LSm PySem.Spec PyProof.V PySem.Calls
section
variable {c : Cx} {P : Sp} {n m : Nat} {T T' T'' T₁ T₂ T₃ : TS} {s s' s'' : Shared} {X X₀ X₁ Y W W' B : Addr → Prop} {K₀ : Addr → Obj → Prop} {RP : Shared → (Addr → Prop) → Prop} {sc sc' : Scp} {ow ow' : List Str} {A : Around} {env : Env} {Γ Γ' Γ₁ Γ₂ : Gam} {d d₁ d₂ d₃ : PyData} {dd : D} {v : Value} {E : Value → Shared → Prop} {h h' : Heap}
  {x y z nm : Str} {a τ : Addr} {e : PySem.Expr} {pos np px spos p1 p2 : Pos} {k : Nat} {bs : List Nat} {kd : NameKind}
theorem Call.bytes_at {ns : List Int} {Q : Value → Shared → Prop} (p : PreC c P n A s X T) (ra : RdP s.heap X v (.list (ns.map .int))) (hr : ∀ i ∈ ns, 0 ≤ i ∧ i < 256) (hz : ns.length ≤ 1000000)
    (h : ∀ h' t tk, Keep s.heap h' → Q (.bytes (byteArr ns) t) { s with heap := h', toks := tk }) : wpAny c.M A (call (.type "bytes") [v]) Q E s := by
  obtain ⟨a, vs, m, sl, rfl, _, g, r⟩ := RdP.inv ra
  have e := r.length
  rw [List.length_map, Array.length_toList] at e
  exact call_bytes_ints (vs := vs.toList) ⟨_, g, rfl, m, by simp⟩ (ints_are r) hr (by rw [sizeLine_eq, Array.length_toList]; (first | (simp +arith only; done) | lia | omega)) p.a.1 fun h' t k hk => h h' t k hk
theorem iter_bytes {Bs : Array UInt8} {t : Tok} {Q : Value → Shared → Prop} (h : Q (.ref s.heap.objs.size) { s with heap := s.heap.push { cls := .type "bytes_iterator", data := .fields #[.bytes Bs t, .int 0 0] } }) : wpAny c.M A (call (.builtin "iter") [.bytes Bs t]) Q E s := by
  refine call_function_entry (by decide +kernel) (by decide +kernel) kdk_entry_iter (kdk_args_iter _) ?_
  unfold Builtin.«iter»
  refine wpAny_bind (m := someArgs "iter" 1 2 _) (wpAny_of_eq (a := [Value.bytes Bs t]) (by first | rfl | kernel_rfl!) ?_)
  show wpAny _ _ (pyIter (.bytes Bs t) >>= _) _ _ _
  exact wpAny_bind (KBw.pyIter_bytes (wpAny_pure ⟨_, rfl, h⟩))
theorem one_arg {f : Value} (hp : ∀ env, starEach [e] env = [(false, eval e env)]) (hk : Keep3 c f) (st : St c s.heap) {Q : Value → Shared → Prop} (h : wpAny c.M A (eval e env) (fun v s' => St c s'.heap ∧ wpAny c.M A (call f [v]) Q E s') E s) :
    wpAny c.M A (callWith pos f [] (backTo pos (starEach [e] env)) []) Q E s :=
  callWith_of (P := St c) (by rw [hp]; rfl) hk (evalArgs_all (by rw [hp]; rfl) (by
    rw [hp]
    show wpAny c.M A (spliced ((false, eval e env) :: [])) _ _ _
    unfold spliced
    exact wpAny_bind (wpAny_mono h (fun v s' q => wpAny_bind (wpAny_pure (wpAny_bind (wpAny_holding (wpAny_pure (wpAny_pure q)))))) fun _ _ e => e)))
theorem Inv.tape (J : Inv c P n sc ow A env s X₀ W K₀ RP none Γ ⟨none, none⟩) {tk : Nat} (kp : Keep s.heap h') (h0 : s.heap.get? τ = none) (t : TapeAt h' τ bs) (hΓ : ∀ k sl, gget Γ k = some sl → ∃ d, sl = .v d ∧ d ≠ .tape ∧ d ≠ .self) :
    Inv c { P with τ := τ } n sc ow A env { s with heap := h', toks := tk } (fun b => X₀ b ∨ b = τ) W K₀ RP none Γ ⟨some bs, none⟩ := by
  have g : ∃ o, h'.get? τ = some o := let ⟨_, _, _, g, _⟩ := t; ⟨_, g⟩
  have z0 : c.h₀.get? τ = none := by
    cases e : c.h₀.get? τ with
    | none => rfl
    | some ob => exact nomatch h0.symm.trans (J.pc.st τ ob e)
  have o : Out P ⟨none, none⟩ ⟨none, none⟩ s { s with heap := h', toks := tk } := Out.all kp
  have wt : ¬ W τ := fun z => (J.pc.xlt τ (.inr z)).elim fun _ f => nomatch h0.symm.trans f
  have J' := J.outX o (J.pc.sp.keeps kp) (Y := fun b => X₀ b ∨ b = τ) (W' := W) (fun _ z => .inl z) (fun _ z => z)
    (fun b z => z.elim (fun z => z.elim (fun z => .inl (.inl z)) fun z => .inr (z ▸ ⟨h0, g⟩)) fun z => .inl (.inr z)) fun b w z => z.elim (J.wx b w).2 fun z => wt (z ▸ w)
  exact ⟨⟨J'.pc.ok, J'.pc.a, J'.pc.st, J'.pc.xlt, fun b e => by cases e; exact ⟨.inl (.inr rfl), z0, t⟩, fun _ e => (nomatch e)⟩, J'.es, J'.cx, J'.wx, ⟨.inr (.inr rfl), .inl rfl⟩, J'.wl, J'.cw,
    fun b ob q => ⟨(J'.kp b ob q).1, (J'.kp b ob q).2.1, fun e => (by
      have := (J.kp b ob q).1
      rw [show b = τ from e, h0] at this
      cases this), fun _ => rfl⟩, J'.rc, J'.rp, fun _ e => (nomatch e), fun k x kd sl h1 h2 => by
      obtain ⟨d, rfl, hd⟩ := hΓ k sl h2
      exact (J'.bd k x kd _ h1 h2).imp fun v q => ⟨q.1, rd_re hd q.2⟩⟩
theorem tape_stmt {ns : List Int} (hx : GName c sc y (.builtin "iter")) (hz : GName c sc z (.type "bytes")) (hp : ∀ env, starEach [e] env = [(false, eval e env)]) (hp' : ∀ env, starEach [.Call (.Name z np) [e] [] p1] env = [(false, eval (.Call (.Name z np) [e] [] p1) env)])
    (he : Ev c n sc (hide Γ) ⟨none, none⟩ e (.p (.list (ns.map .int))) ⟨none, none⟩) (hr : ∀ i ∈ ns, 0 ≤ i ∧ i < 256) (hl : ns.length ≤ 1000000) (hΓ : ∀ k sl, gget Γ k = some sl → ∃ d, sl = .v d ∧ d ≠ .tape ∧ d ≠ .self) (hbs : bs = ns.map Int.toNat)
    (hsw : ∀ env, EnvS sc env → swapsWith (.Call (.Name y p2) [.Call (.Name z np) [e] [] p1] [] pos) (some (.Name x px)) spos.line env = pure false) (hk : sc[k]? = some (x, kd)) (hkl : k < Γ.length) (ho : OwnK kd x ow) (J : Inv c P n sc ow A env s X₀ W K₀ RP none Γ ⟨none, none⟩)
    {Q : Flow → Shared → Prop} (h : ∀ s' τ W', Inv c { P with τ := τ } n sc ow A env s' (fun b => X₀ b ∨ b = τ) W' K₀ RP none (Γ.set k (some (.v .tape))) ⟨some bs, none⟩ → Q .next s') :
    wpAny c.M A (exec (.Assign [.Name x px] (.Call (.Name y p2) [.Call (.Name z np) [e] [] p1] [] pos) spos) env) Q E s := by
  refine wpAny_Assign_Name (wpAny_Call_NameR (glob_load J.pre hx.k hx.d hx.v (one_arg hp' Keep3.builtin J.pc.st (wpAny_Call_NameR (glob_load J.pre hz.k hz.d hz.v (one_arg hp Keep3.type J.pc.st (J.ev he fun v s₁ J₁ r₁ => ⟨J₁.pc.st, Call.bytes_at J₁.pc r₁ hr hl fun h' t tk kp => ?_⟩))))))) (hsw _ J.es)
  have J₂ := J₁.all (tk := tk) kp
  refine ⟨J₂.pc.st, iter_bytes ?_⟩
  have J₃ := J₂.tape (tk := tk) (bs := bs) (τ := h'.objs.size) (h' := h'.push { cls := .type "bytes_iterator", data := .fields #[.bytes (byteArr ns) t, .int 0 0] }) (fun b o e => Heap.get?_push_of_some _ e) (none_of_size (Nat.le_refl _))
    ⟨none, _, #[], Heap.get?_push_size _ rfl, .inl ⟨byteArr ns, t, 0, rfl, ?_⟩⟩ hΓ
  · exact J₃.store hk hkl ho (sl := .v .tape) rfl fun s'' J'' _ => h _ _ _ J''
  · rw [hbs, List.drop_zero, byteArr, List.map_map]
    refine List.map_congr_left fun i hi => ?_
    have := hr i hi
    show i.toNat = (i.toNat.toUInt8).toNat
    simp
    (first | (simp +arith only; done) | lia | omega)
end
end
noncomputable section
open PySem PySem.W PyProof.Rows PyProof.Rows.LSm PySem.Spec PyProof.V PySem.Calls
section
variable {c : Cx} {P : Sp} {n m : Nat} {T T' T'' T₁ : TS} {sc : Scp} {ow : List Str} {Γ Γ' Γ₁ : Gam} {d : PyData} {dd : D} {ds : List D} {x nm : Str} {e o : PySem.Expr} {es : List PySem.Expr} {pos np apos : Pos} {k : Nat} {kd : NameKind} {sl : Slot} {fl : Fl} {body : List Stmt} {pn : List Str} {fs : Flds} {fd : FuncData} {a : D}
structure NmAt (sc : Scp) (k : Nat) (x : Str) (kd : NameKind) : Prop where
  hk : sc[k]? = some (x, kd)
  hd : ((x == ("__debug__" : Str)) || (x == ("__classdict__" : Str))) = false
structure GlAt (sc : Scp) (x : Str) : Prop where
  k : sc.lookup x = some .globalImplicit
  d : (x == ("__debug__" : Str)) = false
noncomputable def Fx (c : Cx) (x : Str) (fv : Value) : Prop := c.mg x = some fv ∨ c.mg x = none ∧ bootBuiltins x = some fv ∧ x ≠ "__name__"
theorem GlAt.gn {fv : Value} (q : GlAt sc x) (h : Fx c x fv) : GName c sc x fv := ⟨q.k, q.d, h⟩
noncomputable def CallN (c : Cx) (n : Nat) (x : Str) (ds : List D) (T : TS) (d : D) (T' : TS) : Prop := ∃ fv, Fx c x fv ∧ Keep3 c fv ∧ Call c n fv ds T d T'
noncomputable def NoStar (es : List PySem.Expr) : Prop := ∀ (env : Env) (pos : Pos), (backTo pos (starEach es env)).any (·.1) = false
theorem Ev.callN (q : GlAt sc x) (hp : NoStar es) (hg : EvL c n sc Γ T es ds T') (hF : CallN c n x ds T' dd T'') : Ev c n sc Γ T (.Call (.Name x np) es [] pos) dd T'' :=
  let ⟨_, h1, h2, h3⟩ := hF; Ev.call (q.gn h1) h2 hp hg h3
noncomputable def FnAt (c : Cx) (x : Str) (b : List Stmt) (sc : Scp) (pn : List Str) : Prop := ∃ a o fd, c.mg x = some (.ref a) ∧ c.h₀.get? a = some o ∧ o.data = .func fd ∧ c.h₀.CodeRec fd.code fd.qualname ∧ fd.body = .stmts b ∧ fd.scope.names = sc ∧ (fd.scope.isCoroutine = false ∧ fd.scope.isGenerator = false ∧ fd.scope.kind = .function) ∧ fd.globals = mainGlobals ∧ fd.builtins = builtinsNs ∧ fd.closure = [] ∧
  ∀ vs : List Value, vs.length = pn.length → bindArgs fd ⟨vs, []⟩ = pure (pn.zip vs)
structure ScOK (sc : Scp) (ow : List Str) (pn : List Str) : Prop where
  nd : (sc.map (·.1)).Nodup
  how : ∀ x ∈ ow, (x, .cell) ∈ sc
  nf : ∀ p ∈ sc, p.2 ≠ .free
  hpn : pn = (sc.take pn.length).map (·.1)
  pk : ∀ p ∈ sc.take pn.length, p.2 = .local ∨ p.2 = .cell
theorem ScOK.fn (q : ScOK sc ow pn) (h1 : fd.body = .stmts body) (h2 : fd.scope.names = sc) (h2' : fd.scope.isCoroutine = false ∧ fd.scope.isGenerator = false ∧ fd.scope.kind = .function) (h3 : fd.globals = mainGlobals) (h4 : fd.builtins = builtinsNs) (h5 : fd.closure = []) (h6 : ∀ vs : List Value, vs.length = pn.length → bindArgs fd ⟨vs, []⟩ = pure (pn.zip vs)) : FnOK fd sc ow body pn :=
  ⟨h1, h2, h3, h4, h5, h2'.1, h2'.2.1, h2'.2.2, q.nd, q.how, q.nf, q.hpn, fun k x kd hk e => q.pk _ (List.mem_of_getElem? (i := k) (by rw [List.getElem?_take, if_pos hk]; exact e)), h6⟩
theorem CallN.fn (h : FnAt c x body sc pn) (q : ScOK sc ow pn) (hl : ds.length = pn.length) (ex : Ex c n sc ow (fnG ds) T body fl Γ' T') (hf : Gives fl dd) (hT : (T.tape = none ↔ T'.tape = none) ∧ T'.self = none ∧ T.self = none) : CallN c (n + 1) x ds T dd T' := by
  obtain ⟨a, o, fd, h1, h2, h3, h4, h5, h6, h6', h7, h8, h9, h10⟩ := h
  exact ⟨_, .inl h1, Keep3.fn h2 h3, Call.fn (q.fn h5 h6 h6' h7 h8 h9 h10) h2 h3 h4 hl ex hf hT⟩
noncomputable def MethAt (c : Cx) (x : Str) (b : List Stmt) (sc : Scp) (pn : List Str) : Prop := ∃ f o fd, findIn c.K (.ref c.C) x = some (some (.ref f)) ∧ typeIn c.K (.ref f) = some (.type "function") ∧ c.h₀.get? f = some o ∧ o.data = .func fd ∧ c.h₀.CodeRec fd.code fd.qualname ∧ fd.body = .stmts b ∧ fd.scope.names = sc ∧ (fd.scope.isCoroutine = false ∧ fd.scope.isGenerator = false ∧ fd.scope.kind = .function) ∧ fd.globals = mainGlobals ∧ fd.builtins = builtinsNs ∧ fd.closure = [] ∧
  ∀ vs : List Value, vs.length = pn.length → bindArgs fd ⟨vs, []⟩ = pure (pn.zip vs)
noncomputable def CallM (c : Cx) (n : Nat) (a : D) (x : Str) (ds : List D) (T : TS) (d : D) (T' : TS) : Prop := ∃ fv, Meth c n a x fv ∧ Keep3 c fv ∧ Call c n fv (a :: ds) T d T'
noncomputable abbrev MethSyn (o : PySem.Expr) (nm : Str) (apos : Pos) (es : List PySem.Expr) (pos : Pos) : Prop := ∀ env : Env, eval (.Call (.Attribute o nm apos) es [] pos) env = (do let ov ← eval o env; standAt apos.atName; let (f, first) ← holding [ov] (getMethod ov nm (plOf o env)); callWith pos f first (backTo pos (starEach es env)) (backToKw pos (keywordEach [] env)))
theorem Ev.callM (hp : NoStar es) (he : MethSyn o nm apos es pos) {T3 : TS} (hl : Ev c n sc Γ T o a T') (hg : EvL c n sc Γ T' es ds T'') (hF : CallM c n a nm ds T'' dd T3) : Ev c n sc Γ T (.Call (.Attribute o nm apos) es [] pos) dd T3 :=
  let ⟨_, h1, h2, h3⟩ := hF; Ev.meth h1 h2 hp hl hg h3 he
theorem CallM.ws (h : MethAt c x body sc pn) (q : ScOK sc ow pn) (hl : ds.length + 1 = pn.length) (hn : fs.lookup x = none) (ex : Ex c n sc ow (fnG (.ws fs :: ds)) T body fl Γ' T') (hf : Gives fl dd) (hT : (T.tape = none ↔ T'.tape = none) ∧ T'.self = none ∧ T.self = none) : CallM c (n + 1) (.ws fs) x ds T dd T' := by
  obtain ⟨f, o, fd, h0, h1, h2, h3, h4, h5, h6, h6', h7, h8, h9, h10⟩ := h
  exact ⟨_, Meth.ws h0 h1 hn, Keep3.fn h2 h3, Call.fn (q.fn h5 h6 h6' h7 h8 h9 h10) h2 h3 h4 (by simpa using hl) ex hf hT⟩
theorem CallN.cls (h : MethAt c "__init__" body sc pn) (q : ScOK sc ow pn) (hx : c.mg x = some (.ref c.C)) (hk : keepIn c.K (.ref c.C) = true) (ok : c.OK) (hl : ds.length + 1 = pn.length) (hds : ∀ d ∈ ds, d ≠ .tape ∧ d ≠ .self) (ex : Ex c n sc ow (fnG (.self :: ds)) ⟨none, some []⟩ body .next Γ' ⟨none, some fs⟩) : CallN c (n + 2) x ds ⟨none, none⟩ (.ws fs) ⟨none, none⟩ := by
  obtain ⟨f, o, fd, h0, h1, h2, h3, h4, h5, h6, h6', h7, h8, h9, h10⟩ := h
  exact ⟨_, .inl hx, Keep3.K ok hk, Call.cls h0 h1 (q.fn h5 h6 h6' h7 h8 h9 h10) h2 h3 h4 hl hds ex⟩
theorem CallN.bi {id : String} (hm : c.mg x = none) (hb : bootBuiltins x = some (.builtin id)) (hn : x ≠ "__name__") (h : Call c n (.builtin id) ds T dd T') : CallN c n x ds T dd T' := ⟨_, .inr ⟨hm, hb, hn⟩, Keep3.builtin, h⟩
theorem CallN.ty {id : String} (hm : c.mg x = none) (hb : bootBuiltins x = some (.type id)) (hn : x ≠ "__name__") (h : Call c n (.type id) ds T dd T') : CallN c n x ds T dd T' := ⟨_, .inr ⟨hm, hb, hn⟩, Keep3.type, h⟩
end
end
noncomputable section
open PySem PySem.W PyProof.Rows PyProof.Rows.LSm PySem.Spec PyProof.V PySem.Calls
section
variable {c : Cx} {P : Sp} {n m : Nat} {T T' T'' T₁ : TS} {sc sc' : Scp} {ow ow' : List Str} {Γ Γ' Γ₁ : Gam} {d d₁ d₂ : PyData} {dd : D} {ds : List PyData} {x : Str} {e o u l r : PySem.Expr} {es : List PySem.Expr} {pos np apos : Pos} {k : Nat} {kd : NameKind} {sl : Slot} {fl : Fl} {body : List Stmt} {pn : List Str} {fs : Flds} {fd : FuncData} {a : D} {gens : List Comprehension} {scope : Scope} {ifs : List PySem.Expr} {t iter : PySem.Expr} {mp : List (Option Nat)} {b : Bool}
theorem kd_eq {a b : NameKind} (h : (a == b) = true) : a = b := by cases a <;> cases b <;> first | rfl | cases h
noncomputable def scEq : Scp → Scp → Bool
  | [], [] => true
  | (x, k) :: a, (y, j) :: b => (x == y && k == j) && scEq a b
  | _, _ => false
theorem scEq_of : ∀ {a b : Scp}, scEq a b = true → a = b := fun {a} => by
  induction a with
  | nil => intro b h; cases b with
    | nil => rfl
    | cons _ _ => cases h
  | cons p a ih => intro b h; cases b with
    | nil => cases h
    | cons q b =>
      obtain ⟨h1, h2⟩ := Bool.and_eq_true_iff.mp h
      obtain ⟨h3, h4⟩ := Bool.and_eq_true_iff.mp h1
      rw [ih h2, Prod.ext (beq_iff_eq.mp h3) (kd_eq h4)]
noncomputable def ndB : List Str → Bool
  | [] => true
  | x :: r => !r.contains x && ndB r
theorem ndB_of : ∀ {l : List Str}, ndB l = true → l.Nodup := fun {l} => by
  induction l with
  | nil => exact fun _ => .nil
  | cons x r ih =>
    intro h
    obtain ⟨h1, h2⟩ := Bool.and_eq_true_iff.mp h
    refine List.nodup_cons.mpr ⟨fun m => ?_, ih h2⟩
    rw [Bool.not_eq_true', ← Bool.not_eq_true, List.contains_iff_mem] at h1
    exact h1 m
noncomputable def mpB (sc : Scp) : Scp → List (Option Nat) → Bool
  | [], [] => true
  | (_, kd) :: ns, none :: mp => !(kd == .free) && mpB sc ns mp
  | (x, kd) :: ns, some k :: mp => (kd == .free && (match sc[k]? with | some (y, kd') => y == x && (kd' == .cell || kd' == .free) | none => false)) && mpB sc ns mp
  | _, _ => false
theorem mpB_of : ∀ {ns : Scp} {mp : List (Option Nat)}, mpB sc ns mp = true → Mp sc ns mp := fun {ns} => by
  induction ns with
  | nil => intro mp h; cases mp with
    | nil => exact .nil
    | cons _ _ => cases h
  | cons p ns ih =>
    obtain ⟨x, kd⟩ := p
    intro mp h
    cases mp with
    | nil => cases h
    | cons o mp =>
      cases o with
      | none =>
        obtain ⟨h1, h2⟩ := Bool.and_eq_true_iff.mp h
        exact .skip _ _ _ _ (fun e => by rw [e] at h1; cases h1) (ih h2)
      | some k =>
        obtain ⟨h1, h2⟩ := Bool.and_eq_true_iff.mp h
        obtain ⟨h3, h4⟩ := Bool.and_eq_true_iff.mp h1
        cases kd_eq h3
        refine .take _ _ _ _ ?_ (ih h2)
        cases e : sc[k]? with
        | none => rw [e] at h4; cases h4
        | some q =>
          obtain ⟨y, kd'⟩ := q
          rw [e] at h4
          obtain ⟨h5, h6⟩ := Bool.and_eq_true_iff.mp h4
          cases (beq_iff_eq.mp h5 : y = x)
          exact (Bool.or_eq_true_iff.mp h6).imp (fun z => by rw [kd_eq z]) fun z => by rw [kd_eq z]
noncomputable def cellB (l : Scp) (ow : List Str) : Bool := ow.all fun x => l.any fun p => p.1 == x && p.2 == .cell
theorem cellB_of {l : Scp} (h : cellB l ow = true) : ∀ x ∈ ow, (x, .cell) ∈ l := fun x m => by
  obtain ⟨p, h1, h2⟩ := List.any_eq_true.mp (List.all_eq_true.mp h x m)
  obtain ⟨h3, h4⟩ := Bool.and_eq_true_iff.mp h2
  rw [← beq_iff_eq.mp h3, ← kd_eq h4]
  exact h1
noncomputable def compB (scope : Scope) (sc sc' : Scp) (ow' : List Str) (mp : List (Option Nat)) : Bool := (match scope.kind with | .function => true | _ => false) && (ndB (scope.names.map (·.1)) && (scEq (relS scope sc) sc' && (mpB sc scope.names mp && cellB scope.names ow')))
theorem CompOK.of (h : compB scope sc sc' ow' mp = true) (hg : gens[0]? = some ⟨t, iter, ifs, 0⟩) (hs : ∀ (env : Env) x, foldedSetIterable iter env x = pure x) : CompOK sc t iter ifs gens scope sc' ow' mp := by
  obtain ⟨h1, h⟩ := Bool.and_eq_true_iff.mp h
  obtain ⟨h2, h⟩ := Bool.and_eq_true_iff.mp h
  obtain ⟨h3, h⟩ := Bool.and_eq_true_iff.mp h
  obtain ⟨h4, h5⟩ := Bool.and_eq_true_iff.mp h
  refine ⟨hg, hs, ?_, ndB_of h2, scEq_of h3, mpB_of h4, cellB_of h5⟩
  cases e : scope.kind <;> rw [e] at h1 <;> first | rfl | cases h1
noncomputable def scB (sc : Scp) (ow pn : List Str) : Bool := ndB (sc.map (·.1)) && (cellB sc ow && ((sc.all fun p => !(p.2 == .free)) && ((sc.take pn.length).all (fun p => p.2 == .local || p.2 == .cell) && (pn == (sc.take pn.length).map (·.1)))))
theorem ScOK.of (h : scB sc ow pn = true) : ScOK sc ow pn := by
  obtain ⟨h1, h⟩ := Bool.and_eq_true_iff.mp h
  obtain ⟨h2, h⟩ := Bool.and_eq_true_iff.mp h
  obtain ⟨h3, h⟩ := Bool.and_eq_true_iff.mp h
  obtain ⟨h4, h5⟩ := Bool.and_eq_true_iff.mp h
  exact ⟨ndB_of h1, cellB_of h2, fun p m e => (nomatch (show false = true by simpa [e] using List.all_eq_true.mp h3 p m)), beq_iff_eq.mp h5, fun p m => (Bool.or_eq_true_iff.mp (List.all_eq_true.mp h4 p m)).imp kd_eq kd_eq⟩
theorem Ev.namV (q : NmAt sc k x kd) (hg : gget Γ k = some (.v dd)) : Ev c n sc Γ T (.Name x pos) dd T := Ev.name k q.hk hg q.hd
theorem Ev.namO {l : List PyData} (q : NmAt sc k x kd) (hg : gget Γ k = some (.own l)) : Ev c n sc Γ T (.Name x pos) (.p (.list l)) T := Ev.name k q.hk hg q.hd
theorem Ev.namW {l : List (List PyData)} (q : NmAt sc k x kd) (hg : gget Γ k = some (.own2 l)) : Ev c n sc Γ T (.Name x pos) (.p (.list (l.map .list))) T := Ev.name k q.hk hg q.hd
noncomputable abbrev EvP (c : Cx) (n : Nat) (sc : Scp) (Γ : Gam) (T : TS) (es : List PySem.Expr) (ds : List PyData) (T' : TS) : Prop := EvL c n sc Γ T es (ds.map .p) T'
theorem EvP.nil : EvP c n sc Γ T [] [] T := EvL.nil
theorem EvP.cons (h : Ev c n sc Γ T e (.p d) T') (hs : EvP c n sc Γ T' es ds T'') (hne : ∀ (env : Env), starEach (e :: es) env = (false, eval e env) :: starEach es env) : EvP c n sc Γ T (e :: es) (d :: ds) T'' := EvL.cons h hs hne
theorem Ev.list (h : EvP c n sc Γ T es ds T') (hl : ds.length ≤ 1000) : Ev c n sc Γ T (.List es pos) (.p (.list ds)) T' := (EvO.list h hl).ev
theorem Ev.tup {k : Nat} (h : EvP c n sc Γ T es ds T') (hl : ds.length ≤ 1000) : Ev c n sc Γ T (.Tuple es k pos) (.p (.tuple ds)) T' := Ev.tuple h hl
theorem Ev.cast (h : Ev c n sc Γ T e (.p d) T') (q : d = d₁) : Ev c n sc Γ T e (.p d₁) T' := q ▸ h
theorem Ev.iteI {t : Bool} {i j : Int} (ht : Tr c n sc Γ T u t T') (h1 : Ev c n sc Γ T' l (.p (.int i)) T'') (h2 : Ev c n sc Γ T' r (.p (.int j)) T'') : Ev c n sc Γ T (.IfExp u l r pos) (.p (.int (bif t then i else j))) T'' :=
  Ev.ifexp ht (fun e => e ▸ h1) fun e => e ▸ h2
theorem Ev.iteS {t : Bool} {i j : Str} (ht : Tr c n sc Γ T u t T') (h1 : Ev c n sc Γ T' l (.p (.str i)) T'') (h2 : Ev c n sc Γ T' r (.p (.str j)) T'') : Ev c n sc Γ T (.IfExp u l r pos) (.p (.str (bif t then i else j))) T'' :=
  Ev.ifexp ht (fun e => e ▸ h1) fun e => e ▸ h2
theorem TrAll.and' {op : BoolOp} {t u : Bool} (ho : op = .And) (h : Tr c n sc Γ T e t T) (hs : TrAll c n sc Γ T op es u T) : TrAll c n sc Γ T op (e :: es) (t && u) T := by cases ho; exact TrAll.and h (fun _ => rfl) fun _ => hs
theorem TrAll.or' {op : BoolOp} {t u : Bool} (ho : op = .Or) (h : Tr c n sc Γ T e t T) (hs : TrAll c n sc Γ T op es u T) : TrAll c n sc Γ T op (e :: es) (t || u) T := by cases ho; exact TrAll.or h (fun _ => rfl) fun _ => hs
theorem Sub.listD {α : Type} [Inhabited α] {f : α → PyData} {xs : List α} {k : Int} (h : 0 ≤ k ∧ k.toNat < xs.length ∧ xs.length ≤ 1000000) : Sub c n (.p (.list (xs.map f))) (.p (.int k)) (.p (f xs[k.toNat]!)) :=
  Sub.list h.1 (by rw [List.getElem?_map, List.getElem?_eq_getElem h.2.1]; simp [h.2.1]) (by rw [List.length_map]; exact h.2.2)
theorem Sub.listN {α : Type} {f : α → PyData} {xs : List α} {k : Nat} {z : α} (h : xs[k]? = some z) (hl : xs.length ≤ 1000000) : Sub c n (.p (.list (xs.map f))) (.p (.int k)) (.p (f z)) :=
  Sub.list (Int.natCast_nonneg _) (by rw [Int.toNat_natCast, List.getElem?_map, h]; rfl) (by rw [List.length_map]; exact hl)
theorem Tr.cast {b' : Bool} (h : Tr c n sc Γ T e b T') (q : b = b') : Tr c n sc Γ T e b' T' := q ▸ h
theorem Sub.tupD {α : Type} [Inhabited α] {f : α → PyData} {xs : List α} {k : Int} (h : 0 ≤ k ∧ k.toNat < xs.length ∧ xs.length ≤ 1000000) : Sub c n (.p (.tuple (xs.map f))) (.p (.int k)) (.p (f xs[k.toNat]!)) :=
  Sub.tuple h.1 (by rw [List.getElem?_map, List.getElem?_eq_getElem h.2.1]; simp [h.2.1]) (by rw [List.length_map]; exact h.2.2)
end
end
noncomputable section
open PySem PySem.W PyProof.Rows PyProof.Rows.LSm PySem.Spec PyProof.V PySem.Calls
section
variable {c : Cx} {P : Sp} {n m : Nat} {T T' T'' T₁ : TS} {sc sc' : Scp} {ow ow' : List Str} {Γ Γ' Γ₁ Γ₂ : Gam} {d d₁ d₂ : PyData} {dd : D} {ds : List PyData} {x y : Str} {e u l r elt test : PySem.Expr} {pos px px' tp : Pos} {k j dep : Nat} {kd kd' : NameKind} {sl : Slot} {fl : Fl} {body orelse : List Stmt} {gens : List Comprehension} {scope : Scope} {ifs : List PySem.Expr} {t iter : PySem.Expr} {mp : List (Option Nat)} {b : Bool} {α σ : Type} {out : List D}
inductive LeL : Gam → Gam → Prop
  | nil (Γ : Gam) : LeL [] Γ
  | same (o : Option Slot) (Γ Γ' : Gam) : LeL Γ Γ' → LeL (o :: Γ) (o :: Γ')
  | skip (o : Option Slot) (Γ Γ' : Gam) : LeL Γ Γ' → LeL (none :: Γ) (o :: Γ')
theorem LeL.le (h : LeL Γ Γ') : Le Γ Γ' := by
  induction h with
  | nil => intro k sl e; cases k <;> cases e
  | same o Γ Γ' _ ih => intro k sl e; cases k with
    | zero => exact e
    | succ k => exact ih k sl e
  | skip o Γ Γ' _ ih => intro k sl e; cases k with
    | zero => cases e
    | succ k => exact ih k sl e
theorem Turn.mk (tg : Tg c n sc ow t Γ d Γ₁) (ex : Ex c n sc ow Γ₁ T body fl Γ₂ T') (le : LeL Γ' Γ₂) : Turn c n sc ow t body Γ T d fl Γ' T' := ⟨_, _, tg, ex, le.le⟩
theorem Run.fold {g : α → PyData} {xs : List α} (G : σ → Gam) (f : σ → α → σ) {s : σ} (I : σ → Prop) (h0 : I s) (hI : ∀ s, ∀ a ∈ xs, I s → I (f s a)) (h : ∀ s, ∀ a ∈ xs, I s → Turn c n sc ow t body (G s) T (g a) .next (G (f s a)) T) (he : I (xs.foldl f s) → Ex c n sc ow (G (xs.foldl f s)) T orelse fl Γ' T') : Run c n sc ow t body orelse Γ' T' (G s) T (xs.map g) fl := by
  induction xs generalizing s with
  | nil => exact .done _ _ _ (he h0)
  | cons a xs ih => exact .next _ _ _ _ _ _ _ (h s a (List.mem_cons_self ..) h0) (ih (hI s a (List.mem_cons_self ..) h0) (fun s b m => hI s b (List.mem_cons_of_mem _ m)) (fun s b m => h s b (List.mem_cons_of_mem _ m)) he)
theorem Run.foldN {g : α → PyData} {xs : List α} (G : σ → Gam) (f : σ → α → σ) {s : σ} (I : Nat → σ → Prop) (h0 : I xs.length s) (hI : ∀ s m, ∀ a ∈ xs, I (m + 1) s → I m (f s a)) (h : ∀ s m, ∀ a ∈ xs, I (m + 1) s → Turn c n sc ow t body (G s) T (g a) .next (G (f s a)) T) (he : I 0 (xs.foldl f s) → Ex c n sc ow (G (xs.foldl f s)) T orelse fl Γ' T') : Run c n sc ow t body orelse Γ' T' (G s) T (xs.map g) fl := by
  induction xs generalizing s with
  | nil => exact .done _ _ _ (he h0)
  | cons a xs ih => exact .next _ _ _ _ _ _ _ (h s _ a (List.mem_cons_self ..) h0) (ih (hI s _ a (List.mem_cons_self ..) h0) (fun s k b m => hI s k b (List.mem_cons_of_mem _ m)) (fun s k b m => h s k b (List.mem_cons_of_mem _ m)) he)
theorem le_fn {ds : List D} : Le (fnG ds ++ List.replicate k none) (fnG ds) := fun j sl e => by
  unfold gget at e ⊢
  rw [List.getElem?_append] at e
  split at e
  · exact e
  · rw [List.getElem?_replicate] at e
    split at e <;> cases e
theorem Ex.gro (h : Ex c n sc ow Γ T body fl Γ' T') (hw : Le Γ Γ₁) : Ex c n sc ow Γ₁ T body fl Γ' T' := fun _ _ _ _ _ _ _ _ _ J => h _ _ _ _ _ _ _ _ _ (J.weak hw fun _ _ z => z)
theorem hide_inG : hide (inG mp Γ) = inG mp Γ := by
  unfold hide inG
  rw [List.map_map]
  exact List.map_congr_left fun o _ => by
    show ((o.bind (gget Γ)).map _).bind hideS = _
    cases o.bind (gget Γ) <;> rfl
theorem hide_set (h : hide Γ = Γ) : hide (Γ.set k (some (.v dd))) = Γ.set k (some (.v dd)) := by
  unfold hide at h ⊢
  rw [List.map_set, h]
  rfl
theorem inG_none (h : mp[k]? = some none) : gget (inG mp Γ) k = none ∧ k < (inG mp Γ).length := by
  unfold gget inG
  rw [List.getElem?_map, h, List.length_map]
  exact ⟨rfl, (List.getElem?_eq_some_iff.mp h).1⟩
theorem le_set (h : gget Γ k = none ∧ k < Γ.length) : Le Γ (Γ.set k (some sl)) := fun j sl' e => by
  rw [gget_set h.2]
  by_cases q : j = k
  · rw [q, h.1] at e; cases e
  · rw [if_neg q]; exact e
theorem Tn.nam (q : NmAt sc k x kd) (ho : OwnK kd x ow) (h0 : gget Γ k = none ∧ k < Γ.length) (r : Rs c n sc ow elt gens scope pos dep (Γ.set k (some (.v (.p d)))) T out T') : Tn c n sc ow elt gens scope pos dep (.Name x px) [] Γ T d out T' :=
  Tn.mk0 (Tg.name q.hk h0.2 ho) (le_set h0) r
theorem Tn.namIf (q : NmAt sc k x kd) (ho : OwnK kd x ow) (h0 : gget Γ k = none ∧ k < Γ.length) (hh : hide Γ = Γ) (ht : Tr c n sc (Γ.set k (some (.v (.p d)))) T test b T) (r : b = true → Rs c n sc ow elt gens scope pos dep (Γ.set k (some (.v (.p d)))) T out T) : Tn c n sc ow elt gens scope pos dep (.Name x px) [test] Γ T d (bif b then out else []) T :=
  Tn.mk1 (Tg.name q.hk h0.2 ho) (le_set h0) (by rw [hide_set hh]; exact ht) (fun e => by subst e; exact r rfl) fun e => by subst e; exact ⟨rfl, rfl⟩
theorem Steps.mapM {g : α → PyData} {o : α → List D} {xs : List α} (h : ∀ a ∈ xs, Tn c n sc ow elt gens scope pos dep t ifs Γ T (g a) (o a) T) : Steps c n sc ow elt gens scope pos dep t ifs Γ T (xs.map g) (xs.flatMap o) T := by
  induction xs with
  | nil => exact .nil _
  | cons a xs ih =>
    rw [List.flatMap_cons]
    exact .cons _ _ _ _ _ _ _ (h a (List.mem_cons_self ..)) (ih fun b m => h b (List.mem_cons_of_mem _ m))
theorem Rs.nextM {t' iter' : PySem.Expr} {ifs' : List PySem.Expr} {g : α → PyData} {o : α → List D} {xs : List α} (hg : gens[dep + 1]? = some ⟨t', iter', ifs', 0⟩) (hh : hide Γ = Γ) (hs : ∀ (env : Env) x, foldedSetIterable iter' env x = pure x) (hi : EvI c n sc Γ T t' iter' (xs.map g) T)
    (st : ∀ a ∈ xs, Tn c n sc ow elt gens scope pos (dep + 1) t' ifs' Γ T (g a) (o a) T) : Rs c n sc ow elt gens scope pos dep Γ T (xs.flatMap o) T := Rs.next hg hh hs hi (Steps.mapM st)
theorem flat_one {f : α → PyData} {xs : List α} : xs.flatMap (fun a => [D.p (f a)]) = (xs.map f).map .p := by
  induction xs with
  | nil => rfl
  | cons a xs ih => rw [List.flatMap_cons, ih]; rfl
theorem flat_if {f : α → PyData} {p : α → Bool} {xs : List α} : xs.flatMap (fun a => bif p a then [D.p (f a)] else []) = ((xs.filter p).map f).map .p := by
  induction xs with
  | nil => rfl
  | cons a xs ih =>
    rw [List.flatMap_cons, ih, List.filter_cons]
    cases p a <;> rfl
theorem flat_p {f : α → List PyData} {xs : List α} : xs.flatMap (fun a => (f a).map D.p) = (xs.flatMap f).map .p := by
  induction xs with
  | nil => rfl
  | cons a xs ih => rw [List.flatMap_cons, ih, List.flatMap_cons, List.map_append]
theorem Comp.map {g f : α → PyData} {xs : List α} (hq : compB scope sc sc' ow' mp = true) (hs : ∀ (env : Env) v, foldedSetIterable iter env v = pure v) (hi : EvI c n sc Γ T (.Name x px) iter (xs.map g) T) (q : NmAt sc' k x kd) (ho : OwnK kd x ow') (h0 : mp[k]? = some none)
    (h : ∀ a ∈ xs, Ev c n sc' ((inG mp Γ).set k (some (.v (.p (g a))))) T elt (.p (f a)) T) (hT : T.self = none) (hl : xs.length ≤ 1000000) : EvO c n sc Γ T (.ListComp elt [⟨.Name x px, iter, [], 0⟩] scope pos) (xs.map f) T :=
  EvO.comp (CompOK.of hq rfl hs) hi (flat_one ▸ Steps.mapM fun a m => Tn.nam q ho (inG_none h0) (Rs.emit rfl (hide_set hide_inG) (h a m))) ⟨Iff.rfl, rfl, hT⟩ (by rw [List.length_map]; exact hl)
theorem Comp.fil {g f : α → PyData} {p : α → Bool} {xs : List α} (hq : compB scope sc sc' ow' mp = true) (hs : ∀ (env : Env) v, foldedSetIterable iter env v = pure v) (hi : EvI c n sc Γ T (.Name x px) iter (xs.map g) T) (q : NmAt sc' k x kd) (ho : OwnK kd x ow') (h0 : mp[k]? = some none)
    (ht : ∀ a ∈ xs, Tr c n sc' ((inG mp Γ).set k (some (.v (.p (g a))))) T test (p a) T) (h : ∀ a ∈ xs, p a = true → Ev c n sc' ((inG mp Γ).set k (some (.v (.p (g a))))) T elt (.p (f a)) T) (hT : T.self = none) (hl : xs.length ≤ 1000000) : EvO c n sc Γ T (.ListComp elt [⟨.Name x px, iter, [test], 0⟩] scope pos) ((xs.filter p).map f) T :=
  EvO.comp (CompOK.of hq rfl hs) hi (flat_if ▸ Steps.mapM fun a m => Tn.namIf q ho (inG_none h0) hide_inG (ht a m) fun e => Rs.emit rfl (hide_set hide_inG) (h a m e)) ⟨Iff.rfl, rfl, hT⟩ (by rw [List.length_map]; exact Nat.le_trans (List.length_filter_le ..) hl)
theorem le_set2 (h : gget Γ j = none ∧ j < Γ.length) (h' : gget Γ k = none ∧ k < Γ.length) (hn : k ≠ j) {s₁ s₂ : Slot} : Le Γ ((Γ.set j (some s₁)).set k (some s₂)) := fun i sl e => le_set (Γ := Γ.set j (some s₁)) ⟨by rw [gget_set h.2, if_neg hn]; exact h'.1, by rw [List.length_set]; exact h'.2⟩ i sl (le_set h i sl e)
theorem Comp.mapP {g₁ g₂ f : α → PyData} {xs : List α} {i : Nat} (hq : compB scope sc sc' ow' mp = true) (hs : ∀ (env : Env) v, foldedSetIterable iter env v = pure v) (hi : EvI c n sc Γ T (.Tuple [.Name x px, .Name y px'] i tp) iter (xs.map fun a => .tuple [g₁ a, g₂ a]) T) (q : NmAt sc' j x kd) (ho : OwnK kd x ow') (h0 : mp[j]? = some none) (q' : NmAt sc' k y kd') (ho' : OwnK kd' y ow') (h0' : mp[k]? = some none) (hn : k ≠ j)
    (he : ∀ env, (assignEach [.Name x px, .Name y px'] env) = [(false, assign (.Name x px) env), (false, assign (.Name y px') env)])
    (h : ∀ a ∈ xs, Ev c n sc' (((inG mp Γ).set j (some (.v (.p (g₁ a))))).set k (some (.v (.p (g₂ a))))) T elt (.p (f a)) T) (hT : T.self = none) (hl : xs.length ≤ 1000000) : EvO c n sc Γ T (.ListComp elt [⟨.Tuple [.Name x px, .Name y px'] i tp, iter, [], 0⟩] scope pos) (xs.map f) T :=
  EvO.comp (CompOK.of hq rfl hs) hi (flat_one ▸ Steps.mapM fun a m => Tn.mk0 (Tg.pair q.hk (inG_none h0).2 ho q'.hk (inG_none h0').2 ho' he) (le_set2 (inG_none h0) (inG_none h0') hn) (Rs.emit rfl (hide_set (hide_set hide_inG)) (h a m))) ⟨Iff.rfl, rfl, hT⟩ (by rw [List.length_map]; exact hl)
end
end
noncomputable section
open PySem PySem.W PyProof.Rows PyProof.Rows.LSm PySem.Spec PyProof.V PySem.Calls
structure WP where
  val : Program
  ok : val = PySem.Challenge.pw_sl0023_01
set_option compiler.extract_closed false in
def wp : WP := ⟨⟨⟨_, _, _, _, _⟩, _, _, _, _, _⟩, rfl⟩
set_option compiler.extract_closed false in
def st (i : Nat) : Stmt := wp.val.main.body.getD i (.Pass ⟨0, 0, 0, 0⟩)
structure Bx where
  val : List Stmt
noncomputable def fdBody (s : Stmt) : List Stmt := (DefRec.ofStmt? s).elim [] (·.body)
noncomputable def clsAt (s : Stmt) (i : Nat) : Stmt := match s with
  | .ClassDef _ _ _ l .. => l.getD i s
  | _ => s
noncomputable def S_init : Scp := [("self", .local), ("ws", .local), ("S", .local), ("T", .local), ("count", .local), ("b", .local), ("n", .local), ("nt", .local), ("ch", .local), ("Whitespace", .globalImplicit), ("len", .globalImplicit), ("tuple", .globalImplicit)]
theorem S_init_0 : NmAt S_init 0 "self" .local := ⟨rfl, by kernel_rfl⟩
theorem S_init_1 : NmAt S_init 1 "ws" .local := ⟨rfl, by kernel_rfl⟩
theorem S_init_2 : NmAt S_init 2 "S" .local := ⟨rfl, by kernel_rfl⟩
theorem S_init_3 : NmAt S_init 3 "T" .local := ⟨rfl, by kernel_rfl⟩
theorem S_init_4 : NmAt S_init 4 "count" .local := ⟨rfl, by kernel_rfl⟩
theorem S_init_5 : NmAt S_init 5 "b" .local := ⟨rfl, by kernel_rfl⟩
theorem S_init_6 : NmAt S_init 6 "n" .local := ⟨rfl, by kernel_rfl⟩
theorem S_init_7 : NmAt S_init 7 "nt" .local := ⟨rfl, by kernel_rfl⟩
theorem S_init_8 : NmAt S_init 8 "ch" .local := ⟨rfl, by kernel_rfl⟩
theorem S_init_9 : GlAt S_init "Whitespace" := ⟨by kernel_rfl, by kernel_rfl⟩
theorem S_init_10 : GlAt S_init "len" := ⟨by kernel_rfl, by kernel_rfl⟩
theorem S_init_11 : GlAt S_init "tuple" := ⟨by kernel_rfl, by kernel_rfl⟩
noncomputable def B_init : Bx := ⟨fdBody (clsAt (st 2) 1)⟩
noncomputable def S_longest : Scp := [("self", .local), ("count", .local), ("trailing", .local), ("max", .globalImplicit), ("len", .globalImplicit)]
theorem S_longest_0 : NmAt S_longest 0 "self" .local := ⟨rfl, by kernel_rfl⟩
theorem S_longest_1 : NmAt S_longest 1 "count" .local := ⟨rfl, by kernel_rfl⟩
theorem S_longest_2 : NmAt S_longest 2 "trailing" .local := ⟨rfl, by kernel_rfl⟩
theorem S_longest_3 : GlAt S_longest "max" := ⟨by kernel_rfl, by kernel_rfl⟩
theorem S_longest_4 : GlAt S_longest "len" := ⟨by kernel_rfl, by kernel_rfl⟩
noncomputable def B_longest : Bx := ⟨fdBody (clsAt (st 2) 2)⟩
noncomputable def S_indent : Scp := [("self", .local), ("tabsize", .local), ("count", .local), ("trailing", .local), ("il", .local), ("i", .local), ("range", .globalImplicit), ("len", .globalImplicit)]
theorem S_indent_0 : NmAt S_indent 0 "self" .local := ⟨rfl, by kernel_rfl⟩
theorem S_indent_1 : NmAt S_indent 1 "tabsize" .local := ⟨rfl, by kernel_rfl⟩
theorem S_indent_2 : NmAt S_indent 2 "count" .local := ⟨rfl, by kernel_rfl⟩
theorem S_indent_3 : NmAt S_indent 3 "trailing" .local := ⟨rfl, by kernel_rfl⟩
theorem S_indent_4 : NmAt S_indent 4 "il" .local := ⟨rfl, by kernel_rfl⟩
theorem S_indent_5 : NmAt S_indent 5 "i" .local := ⟨rfl, by kernel_rfl⟩
theorem S_indent_6 : GlAt S_indent "range" := ⟨by kernel_rfl, by kernel_rfl⟩
theorem S_indent_7 : GlAt S_indent "len" := ⟨by kernel_rfl, by kernel_rfl⟩
noncomputable def B_indent : Bx := ⟨fdBody (clsAt (st 2) 3)⟩
noncomputable def S_witness : Scp := [("self", .local), ("other", .local), ("n", .local), ("a", .local), ("ts", .local), ("max", .globalImplicit), ("range", .globalImplicit)]
theorem S_witness_0 : NmAt S_witness 0 "self" .local := ⟨rfl, by kernel_rfl⟩
theorem S_witness_1 : NmAt S_witness 1 "other" .local := ⟨rfl, by kernel_rfl⟩
theorem S_witness_2 : NmAt S_witness 2 "n" .local := ⟨rfl, by kernel_rfl⟩
theorem S_witness_3 : NmAt S_witness 3 "a" .local := ⟨rfl, by kernel_rfl⟩
theorem S_witness_4 : NmAt S_witness 4 "ts" .local := ⟨rfl, by kernel_rfl⟩
theorem S_witness_5 : GlAt S_witness "max" := ⟨by kernel_rfl, by kernel_rfl⟩
theorem S_witness_6 : GlAt S_witness "range" := ⟨by kernel_rfl, by kernel_rfl⟩
noncomputable def B_witness : Bx := ⟨fdBody (clsAt (st 2) 5)⟩
noncomputable def S_flags : Scp := [("flags", .local), ("names", .local), ("i", .local), ("flag", .local), ("range", .globalImplicit), ("COMPILER_FLAG_NAMES", .globalImplicit), ("hex", .globalImplicit)]
theorem S_flags_0 : NmAt S_flags 0 "flags" .local := ⟨rfl, by kernel_rfl⟩
theorem S_flags_1 : NmAt S_flags 1 "names" .local := ⟨rfl, by kernel_rfl⟩
theorem S_flags_2 : NmAt S_flags 2 "i" .local := ⟨rfl, by kernel_rfl⟩
theorem S_flags_3 : NmAt S_flags 3 "flag" .local := ⟨rfl, by kernel_rfl⟩
theorem S_flags_4 : GlAt S_flags "range" := ⟨by kernel_rfl, by kernel_rfl⟩
theorem S_flags_5 : GlAt S_flags "COMPILER_FLAG_NAMES" := ⟨by kernel_rfl, by kernel_rfl⟩
theorem S_flags_6 : GlAt S_flags "hex" := ⟨by kernel_rfl, by kernel_rfl⟩
noncomputable def B_flags : Bx := ⟨fdBody (st 5)⟩
noncomputable def S_varint : Scp := [("iterator", .local), ("b", .local), ("val", .local), ("next", .globalImplicit)]
theorem S_varint_0 : NmAt S_varint 0 "iterator" .local := ⟨rfl, by kernel_rfl⟩
theorem S_varint_1 : NmAt S_varint 1 "b" .local := ⟨rfl, by kernel_rfl⟩
theorem S_varint_2 : NmAt S_varint 2 "val" .local := ⟨rfl, by kernel_rfl⟩
theorem S_varint_3 : GlAt S_varint "next" := ⟨by kernel_rfl, by kernel_rfl⟩
noncomputable def B_varint : Bx := ⟨fdBody (st 6)⟩
noncomputable def S_term : Scp := [("x", .local), ("NT_OFFSET", .globalImplicit)]
theorem S_term_0 : NmAt S_term 0 "x" .local := ⟨rfl, by kernel_rfl⟩
theorem S_term_1 : GlAt S_term "NT_OFFSET" := ⟨by kernel_rfl, by kernel_rfl⟩
noncomputable def B_term : Bx := ⟨fdBody (st 59)⟩
noncomputable def S_eof : Scp := [("x", .local), ("ENDMARKER", .globalImplicit)]
theorem S_eof_0 : NmAt S_eof 0 "x" .local := ⟨rfl, by kernel_rfl⟩
theorem S_eof_1 : GlAt S_eof "ENDMARKER" := ⟨by kernel_rfl, by kernel_rfl⟩
noncomputable def B_eof : Bx := ⟨fdBody (st 60)⟩
noncomputable def S_signs : Scp := []
noncomputable def B_signs : Bx := ⟨fdBody (st 62)⟩
noncomputable def S_numbers : Scp := [("script", .local), ("numbers", .local), ("k", .local), ("x", .local), ("enumerate", .globalImplicit)]
theorem S_numbers_0 : NmAt S_numbers 0 "script" .local := ⟨rfl, by kernel_rfl⟩
theorem S_numbers_1 : NmAt S_numbers 1 "numbers" .local := ⟨rfl, by kernel_rfl⟩
theorem S_numbers_2 : NmAt S_numbers 2 "k" .local := ⟨rfl, by kernel_rfl⟩
theorem S_numbers_3 : NmAt S_numbers 3 "x" .local := ⟨rfl, by kernel_rfl⟩
theorem S_numbers_4 : GlAt S_numbers "enumerate" := ⟨by kernel_rfl, by kernel_rfl⟩
noncomputable def B_numbers : Bx := ⟨fdBody (st 63)⟩
noncomputable def S_column : Scp := [("lead", .local), ("size", .local), ("column", .local), ("sign", .local)]
theorem S_column_0 : NmAt S_column 0 "lead" .local := ⟨rfl, by kernel_rfl⟩
theorem S_column_1 : NmAt S_column 1 "size" .local := ⟨rfl, by kernel_rfl⟩
theorem S_column_2 : NmAt S_column 2 "column" .local := ⟨rfl, by kernel_rfl⟩
theorem S_column_3 : NmAt S_column 3 "sign" .local := ⟨rfl, by kernel_rfl⟩
noncomputable def B_column : Bx := ⟨fdBody (st 64)⟩
noncomputable def S_parted : Scp := [("leads", .local), ("pairs", .local), ("seen", .cell), ("longest", .cell)]
theorem S_parted_0 : NmAt S_parted 0 "leads" .local := ⟨rfl, by kernel_rfl⟩
theorem S_parted_1 : NmAt S_parted 1 "pairs" .local := ⟨rfl, by kernel_rfl⟩
theorem S_parted_2 : NmAt S_parted 2 "seen" .cell := ⟨rfl, by kernel_rfl⟩
theorem S_parted_3 : NmAt S_parted 3 "longest" .cell := ⟨rfl, by kernel_rfl⟩
noncomputable abbrev O_parted : List Str := ["seen", "longest"]
noncomputable def B_parted : Bx := ⟨fdBody (st 65)⟩
noncomputable def S_parted0 : Scp := [(".0", .local), ("lead", .cell), ("range", .globalImplicit)]
theorem S_parted0_1 : NmAt S_parted0 1 "lead" .cell := ⟨rfl, by kernel_rfl⟩
theorem S_parted0_2 : GlAt S_parted0 "range" := ⟨by kernel_rfl, by kernel_rfl⟩
noncomputable abbrev O_parted0 : List Str := ["lead"]
noncomputable abbrev M_parted0 : List (Option Nat) := [none, none, none]
noncomputable def S_parted1 : Scp := [(".0", .local), ("size", .local), ("_law_column", .globalImplicit), ("lead", .cell)]
theorem S_parted1_1 : NmAt S_parted1 1 "size" .local := ⟨rfl, by kernel_rfl⟩
theorem S_parted1_3 : NmAt S_parted1 3 "lead" .cell := ⟨rfl, by kernel_rfl⟩
theorem S_parted1_2 : GlAt S_parted1 "_law_column" := ⟨by kernel_rfl, by kernel_rfl⟩
noncomputable abbrev O_parted1 : List Str := []
noncomputable abbrev M_parted1 : List (Option Nat) := [none, none, none, some 1]
noncomputable def S_parted2 : Scp := [(".0", .local), ("lead", .local), ("max", .globalImplicit)]
theorem S_parted2_1 : NmAt S_parted2 1 "lead" .local := ⟨rfl, by kernel_rfl⟩
theorem S_parted2_2 : GlAt S_parted2 "max" := ⟨by kernel_rfl, by kernel_rfl⟩
noncomputable abbrev O_parted2 : List Str := []
noncomputable abbrev M_parted2 : List (Option Nat) := [none, none, none]
noncomputable def S_parted3 : Scp := [(".0", .local), ("run", .local), ("len", .globalImplicit)]
theorem S_parted3_1 : NmAt S_parted3 1 "run" .local := ⟨rfl, by kernel_rfl⟩
theorem S_parted3_2 : GlAt S_parted3 "len" := ⟨by kernel_rfl, by kernel_rfl⟩
noncomputable abbrev O_parted3 : List Str := []
noncomputable abbrev M_parted3 : List (Option Nat) := [none, none, none]
noncomputable def S_parted4 : Scp := [(".0", .local), ("i", .cell), ("k", .cell), ("range", .globalImplicit), ("max", .globalImplicit), ("longest", .cell), ("seen", .cell)]
theorem S_parted4_1 : NmAt S_parted4 1 "i" .cell := ⟨rfl, by kernel_rfl⟩
theorem S_parted4_2 : NmAt S_parted4 2 "k" .cell := ⟨rfl, by kernel_rfl⟩
theorem S_parted4_5 : NmAt S_parted4 5 "longest" .cell := ⟨rfl, by kernel_rfl⟩
theorem S_parted4_3 : GlAt S_parted4 "range" := ⟨by kernel_rfl, by kernel_rfl⟩
theorem S_parted4_4 : GlAt S_parted4 "max" := ⟨by kernel_rfl, by kernel_rfl⟩
noncomputable abbrev O_parted4 : List Str := ["i", "k"]
noncomputable abbrev M_parted4 : List (Option Nat) := [none, none, none, none, none, some 3, some 2]
noncomputable def S_parted5 : Scp := [(".0", .local), ("t", .local), ("i", .cell), ("k", .cell), ("seen", .cell)]
theorem S_parted5_1 : NmAt S_parted5 1 "t" .local := ⟨rfl, by kernel_rfl⟩
theorem S_parted5_2 : NmAt S_parted5 2 "i" .cell := ⟨rfl, by kernel_rfl⟩
theorem S_parted5_3 : NmAt S_parted5 3 "k" .cell := ⟨rfl, by kernel_rfl⟩
theorem S_parted5_4 : NmAt S_parted5 4 "seen" .cell := ⟨rfl, by kernel_rfl⟩
noncomputable abbrev O_parted5 : List Str := []
noncomputable abbrev M_parted5 : List (Option Nat) := [none, none, some 1, some 2, some 6]
noncomputable def S_chart : Scp := [("pairs", .local), ("reports", .local), ("firsts", .local), ("after", .local), ("j", .local), ("i", .local), ("k", .local), ("left", .local), ("range", .globalImplicit), ("sum", .globalImplicit)]
theorem S_chart_0 : NmAt S_chart 0 "pairs" .local := ⟨rfl, by kernel_rfl⟩
theorem S_chart_1 : NmAt S_chart 1 "reports" .local := ⟨rfl, by kernel_rfl⟩
theorem S_chart_2 : NmAt S_chart 2 "firsts" .local := ⟨rfl, by kernel_rfl⟩
theorem S_chart_3 : NmAt S_chart 3 "after" .local := ⟨rfl, by kernel_rfl⟩
theorem S_chart_4 : NmAt S_chart 4 "j" .local := ⟨rfl, by kernel_rfl⟩
theorem S_chart_5 : NmAt S_chart 5 "i" .local := ⟨rfl, by kernel_rfl⟩
theorem S_chart_6 : NmAt S_chart 6 "k" .local := ⟨rfl, by kernel_rfl⟩
theorem S_chart_7 : NmAt S_chart 7 "left" .local := ⟨rfl, by kernel_rfl⟩
theorem S_chart_8 : GlAt S_chart "range" := ⟨by kernel_rfl, by kernel_rfl⟩
theorem S_chart_9 : GlAt S_chart "sum" := ⟨by kernel_rfl, by kernel_rfl⟩
noncomputable def B_chart : Bx := ⟨fdBody (st 66)⟩
noncomputable def S_chart0 : Scp := [(".0", .local), ("row", .local)]
theorem S_chart0_1 : NmAt S_chart0 1 "row" .local := ⟨rfl, by kernel_rfl⟩
noncomputable abbrev O_chart0 : List Str := []
noncomputable abbrev M_chart0 : List (Option Nat) := [none, none]
noncomputable def S_chart1 : Scp := [(".0", .local), ("row", .local), ("sorted", .globalImplicit)]
theorem S_chart1_1 : NmAt S_chart1 1 "row" .local := ⟨rfl, by kernel_rfl⟩
theorem S_chart1_2 : GlAt S_chart1 "sorted" := ⟨by kernel_rfl, by kernel_rfl⟩
noncomputable abbrev O_chart1 : List Str := []
noncomputable abbrev M_chart1 : List (Option Nat) := [none, none, none]
noncomputable def S_octets : Scp := [("number", .local), ("octets", .local)]
theorem S_octets_0 : NmAt S_octets 0 "number" .local := ⟨rfl, by kernel_rfl⟩
theorem S_octets_1 : NmAt S_octets 1 "octets" .local := ⟨rfl, by kernel_rfl⟩
noncomputable def B_octets : Bx := ⟨fdBody (st 67)⟩
noncomputable def S_names : Scp := [("base", .local), ("names", .cell), ("range", .globalImplicit)]
theorem S_names_0 : NmAt S_names 0 "base" .local := ⟨rfl, by kernel_rfl⟩
theorem S_names_1 : NmAt S_names 1 "names" .cell := ⟨rfl, by kernel_rfl⟩
theorem S_names_2 : GlAt S_names "range" := ⟨by kernel_rfl, by kernel_rfl⟩
noncomputable abbrev O_names : List Str := ["names"]
noncomputable def B_names : Bx := ⟨fdBody (st 68)⟩
noncomputable def S_names0 : Scp := [(".0", .local), ("p", .local), ("names", .cell)]
theorem S_names0_1 : NmAt S_names0 1 "p" .local := ⟨rfl, by kernel_rfl⟩
theorem S_names0_2 : NmAt S_names0 2 "names" .cell := ⟨rfl, by kernel_rfl⟩
noncomputable abbrev O_names0 : List Str := []
noncomputable abbrev M_names0 : List (Option Nat) := [none, none, some 1]
noncomputable def S_ways : Scp := [("after", .cell), ("ways", .local), ("counts", .local), ("k", .local), ("range", .globalImplicit), ("len", .globalImplicit)]
theorem S_ways_1 : NmAt S_ways 1 "ways" .local := ⟨rfl, by kernel_rfl⟩
theorem S_ways_2 : NmAt S_ways 2 "counts" .local := ⟨rfl, by kernel_rfl⟩
theorem S_ways_3 : NmAt S_ways 3 "k" .local := ⟨rfl, by kernel_rfl⟩
theorem S_ways_4 : GlAt S_ways "range" := ⟨by kernel_rfl, by kernel_rfl⟩
theorem S_ways_5 : GlAt S_ways "len" := ⟨by kernel_rfl, by kernel_rfl⟩
noncomputable abbrev O_ways : List Str := ["after"]
noncomputable def B_ways : Bx := ⟨fdBody (st 69)⟩
noncomputable def S_ways0 : Scp := [(".0", .local), ("i", .local)]
theorem S_ways0_1 : NmAt S_ways0 1 "i" .local := ⟨rfl, by kernel_rfl⟩
noncomputable abbrev O_ways0 : List Str := []
noncomputable abbrev M_ways0 : List (Option Nat) := [none, none]
noncomputable def S_ways1 : Scp := [(".0", .local), ("way", .local), ("one", .local), ("after", .cell)]
theorem S_ways1_1 : NmAt S_ways1 1 "way" .local := ⟨rfl, by kernel_rfl⟩
theorem S_ways1_2 : NmAt S_ways1 2 "one" .local := ⟨rfl, by kernel_rfl⟩
theorem S_ways1_3 : NmAt S_ways1 3 "after" .cell := ⟨rfl, by kernel_rfl⟩
noncomputable abbrev O_ways1 : List Str := []
noncomputable abbrev M_ways1 : List (Option Nat) := [none, none, none, some 0]
noncomputable def S_due : Scp := [("after", .cell), ("greater", .cell), ("threes", .cell), ("d", .local), ("fives", .local), ("t", .local), ("p", .local), ("enumerate", .globalImplicit), ("range", .globalImplicit), ("len", .globalImplicit)]
theorem S_due_0 : NmAt S_due 0 "after" .cell := ⟨rfl, by kernel_rfl⟩
theorem S_due_1 : NmAt S_due 1 "greater" .cell := ⟨rfl, by kernel_rfl⟩
theorem S_due_2 : NmAt S_due 2 "threes" .cell := ⟨rfl, by kernel_rfl⟩
theorem S_due_3 : NmAt S_due 3 "d" .local := ⟨rfl, by kernel_rfl⟩
theorem S_due_4 : NmAt S_due 4 "fives" .local := ⟨rfl, by kernel_rfl⟩
theorem S_due_5 : NmAt S_due 5 "t" .local := ⟨rfl, by kernel_rfl⟩
theorem S_due_6 : NmAt S_due 6 "p" .local := ⟨rfl, by kernel_rfl⟩
theorem S_due_7 : GlAt S_due "enumerate" := ⟨by kernel_rfl, by kernel_rfl⟩
theorem S_due_8 : GlAt S_due "range" := ⟨by kernel_rfl, by kernel_rfl⟩
theorem S_due_9 : GlAt S_due "len" := ⟨by kernel_rfl, by kernel_rfl⟩
noncomputable abbrev O_due : List Str := ["after", "greater", "threes"]
noncomputable def B_due : Bx := ⟨fdBody (st 70)⟩
noncomputable def S_due0 : Scp := [(".0", .local), ("a", .cell), ("row", .local)]
theorem S_due0_1 : NmAt S_due0 1 "a" .cell := ⟨rfl, by kernel_rfl⟩
theorem S_due0_2 : NmAt S_due0 2 "row" .local := ⟨rfl, by kernel_rfl⟩
noncomputable abbrev O_due0 : List Str := ["a"]
noncomputable abbrev M_due0 : List (Option Nat) := [none, none, none]
noncomputable def S_due1 : Scp := [(".0", .local), ("k", .local), ("a", .cell)]
theorem S_due1_1 : NmAt S_due1 1 "k" .local := ⟨rfl, by kernel_rfl⟩
theorem S_due1_2 : NmAt S_due1 2 "a" .cell := ⟨rfl, by kernel_rfl⟩
noncomputable abbrev O_due1 : List Str := []
noncomputable abbrev M_due1 : List (Option Nat) := [none, none, some 1]
noncomputable def S_due2 : Scp := [(".0", .local), ("a", .local), ("b", .local), ("c", .local), ("after", .cell), ("greater", .cell)]
theorem S_due2_1 : NmAt S_due2 1 "a" .local := ⟨rfl, by kernel_rfl⟩
theorem S_due2_2 : NmAt S_due2 2 "b" .local := ⟨rfl, by kernel_rfl⟩
theorem S_due2_3 : NmAt S_due2 3 "c" .local := ⟨rfl, by kernel_rfl⟩
theorem S_due2_4 : NmAt S_due2 4 "after" .cell := ⟨rfl, by kernel_rfl⟩
theorem S_due2_5 : NmAt S_due2 5 "greater" .cell := ⟨rfl, by kernel_rfl⟩
noncomputable abbrev O_due2 : List Str := []
noncomputable abbrev M_due2 : List (Option Nat) := [none, none, none, none, some 0, some 1]
noncomputable def S_due3 : Scp := [(".0", .local), ("a", .local), ("b", .local), ("c", .local), ("d", .local), ("e", .local), ("after", .cell), ("greater", .cell)]
theorem S_due3_1 : NmAt S_due3 1 "a" .local := ⟨rfl, by kernel_rfl⟩
theorem S_due3_2 : NmAt S_due3 2 "b" .local := ⟨rfl, by kernel_rfl⟩
theorem S_due3_3 : NmAt S_due3 3 "c" .local := ⟨rfl, by kernel_rfl⟩
theorem S_due3_4 : NmAt S_due3 4 "d" .local := ⟨rfl, by kernel_rfl⟩
theorem S_due3_5 : NmAt S_due3 5 "e" .local := ⟨rfl, by kernel_rfl⟩
theorem S_due3_6 : NmAt S_due3 6 "after" .cell := ⟨rfl, by kernel_rfl⟩
theorem S_due3_7 : NmAt S_due3 7 "greater" .cell := ⟨rfl, by kernel_rfl⟩
noncomputable abbrev O_due3 : List Str := []
noncomputable abbrev M_due3 : List (Option Nat) := [none, none, none, none, none, none, some 0, some 1]
noncomputable def S_due4 : Scp := [(".0", .local), ("one", .local), ("other", .cell), ("threes", .cell)]
theorem S_due4_1 : NmAt S_due4 1 "one" .local := ⟨rfl, by kernel_rfl⟩
theorem S_due4_2 : NmAt S_due4 2 "other" .cell := ⟨rfl, by kernel_rfl⟩
theorem S_due4_3 : NmAt S_due4 3 "threes" .cell := ⟨rfl, by kernel_rfl⟩
noncomputable abbrev O_due4 : List Str := ["other"]
noncomputable abbrev M_due4 : List (Option Nat) := [none, none, none, some 2]
noncomputable def S_due5 : Scp := [(".0", .local), ("k", .local), ("other", .cell)]
theorem S_due5_1 : NmAt S_due5 1 "k" .local := ⟨rfl, by kernel_rfl⟩
theorem S_due5_2 : NmAt S_due5 2 "other" .cell := ⟨rfl, by kernel_rfl⟩
noncomputable abbrev O_due5 : List Str := []
noncomputable abbrev M_due5 : List (Option Nat) := [none, none, some 2]
noncomputable def S_law : Scp := [("script", .local), ("numbers", .cell), ("base", .cell), ("leads", .cell), ("places", .cell), ("rows", .cell), ("pairs", .local), ("lines", .cell), ("reports", .local), ("parted", .local), ("marks", .cell), ("told", .local), ("after", .local), ("flags", .local), ("tape", .cell), ("read", .local), ("words", .local), ("names", .cell), ("going", .local), ("_law_numbers", .globalImplicit), ("sum", .globalImplicit), ("range", .globalImplicit), ("_law_parted", .globalImplicit), ("_law_chart", .globalImplicit), ("iter", .globalImplicit), ("bytes", .globalImplicit), ("list", .globalImplicit), ("_law_names", .globalImplicit), ("_law_ways", .globalImplicit), ("_law_due", .globalImplicit)]
theorem S_law_0 : NmAt S_law 0 "script" .local := ⟨rfl, by kernel_rfl⟩
theorem S_law_1 : NmAt S_law 1 "numbers" .cell := ⟨rfl, by kernel_rfl⟩
theorem S_law_2 : NmAt S_law 2 "base" .cell := ⟨rfl, by kernel_rfl⟩
theorem S_law_3 : NmAt S_law 3 "leads" .cell := ⟨rfl, by kernel_rfl⟩
theorem S_law_4 : NmAt S_law 4 "places" .cell := ⟨rfl, by kernel_rfl⟩
theorem S_law_5 : NmAt S_law 5 "rows" .cell := ⟨rfl, by kernel_rfl⟩
theorem S_law_6 : NmAt S_law 6 "pairs" .local := ⟨rfl, by kernel_rfl⟩
theorem S_law_7 : NmAt S_law 7 "lines" .cell := ⟨rfl, by kernel_rfl⟩
theorem S_law_8 : NmAt S_law 8 "reports" .local := ⟨rfl, by kernel_rfl⟩
theorem S_law_9 : NmAt S_law 9 "parted" .local := ⟨rfl, by kernel_rfl⟩
theorem S_law_10 : NmAt S_law 10 "marks" .cell := ⟨rfl, by kernel_rfl⟩
theorem S_law_11 : NmAt S_law 11 "told" .local := ⟨rfl, by kernel_rfl⟩
theorem S_law_12 : NmAt S_law 12 "after" .local := ⟨rfl, by kernel_rfl⟩
theorem S_law_13 : NmAt S_law 13 "flags" .local := ⟨rfl, by kernel_rfl⟩
theorem S_law_14 : NmAt S_law 14 "tape" .cell := ⟨rfl, by kernel_rfl⟩
theorem S_law_15 : NmAt S_law 15 "read" .local := ⟨rfl, by kernel_rfl⟩
theorem S_law_16 : NmAt S_law 16 "words" .local := ⟨rfl, by kernel_rfl⟩
theorem S_law_17 : NmAt S_law 17 "names" .cell := ⟨rfl, by kernel_rfl⟩
theorem S_law_18 : NmAt S_law 18 "going" .local := ⟨rfl, by kernel_rfl⟩
theorem S_law_19 : GlAt S_law "_law_numbers" := ⟨by kernel_rfl, by kernel_rfl⟩
theorem S_law_20 : GlAt S_law "sum" := ⟨by kernel_rfl, by kernel_rfl⟩
theorem S_law_21 : GlAt S_law "range" := ⟨by kernel_rfl, by kernel_rfl⟩
theorem S_law_22 : GlAt S_law "_law_parted" := ⟨by kernel_rfl, by kernel_rfl⟩
theorem S_law_23 : GlAt S_law "_law_chart" := ⟨by kernel_rfl, by kernel_rfl⟩
theorem S_law_24 : GlAt S_law "iter" := ⟨by kernel_rfl, by kernel_rfl⟩
theorem S_law_25 : GlAt S_law "bytes" := ⟨by kernel_rfl, by kernel_rfl⟩
theorem S_law_26 : GlAt S_law "list" := ⟨by kernel_rfl, by kernel_rfl⟩
theorem S_law_27 : GlAt S_law "_law_names" := ⟨by kernel_rfl, by kernel_rfl⟩
theorem S_law_28 : GlAt S_law "_law_ways" := ⟨by kernel_rfl, by kernel_rfl⟩
theorem S_law_29 : GlAt S_law "_law_due" := ⟨by kernel_rfl, by kernel_rfl⟩
noncomputable abbrev O_law : List Str := ["numbers", "base", "leads", "places", "rows", "lines", "marks", "tape", "names"]
noncomputable def B_law : Bx := ⟨fdBody (st 71)⟩
noncomputable def S_law0 : Scp := [(".0", .local), ("x", .local)]
theorem S_law0_1 : NmAt S_law0 1 "x" .local := ⟨rfl, by kernel_rfl⟩
noncomputable abbrev O_law0 : List Str := []
noncomputable abbrev M_law0 : List (Option Nat) := [none, none]
noncomputable def S_law1 : Scp := [(".0", .local), ("i", .local), ("sum", .globalImplicit), ("numbers", .cell)]
theorem S_law1_1 : NmAt S_law1 1 "i" .local := ⟨rfl, by kernel_rfl⟩
theorem S_law1_3 : NmAt S_law1 3 "numbers" .cell := ⟨rfl, by kernel_rfl⟩
theorem S_law1_2 : GlAt S_law1 "sum" := ⟨by kernel_rfl, by kernel_rfl⟩
noncomputable abbrev O_law1 : List Str := []
noncomputable abbrev M_law1 : List (Option Nat) := [none, none, none, some 1]
noncomputable def S_law2 : Scp := [(".0", .local), ("i", .local), ("_law_signs", .globalImplicit), ("leads", .cell), ("places", .cell)]
theorem S_law2_1 : NmAt S_law2 1 "i" .local := ⟨rfl, by kernel_rfl⟩
theorem S_law2_3 : NmAt S_law2 3 "leads" .cell := ⟨rfl, by kernel_rfl⟩
theorem S_law2_4 : NmAt S_law2 4 "places" .cell := ⟨rfl, by kernel_rfl⟩
theorem S_law2_2 : GlAt S_law2 "_law_signs" := ⟨by kernel_rfl, by kernel_rfl⟩
noncomputable abbrev O_law2 : List Str := []
noncomputable abbrev M_law2 : List (Option Nat) := [none, none, none, some 3, some 4]
noncomputable def S_law3 : Scp := [(".0", .local), ("i", .local), ("k", .local), ("range", .globalImplicit)]
theorem S_law3_1 : NmAt S_law3 1 "i" .local := ⟨rfl, by kernel_rfl⟩
theorem S_law3_2 : NmAt S_law3 2 "k" .local := ⟨rfl, by kernel_rfl⟩
theorem S_law3_3 : GlAt S_law3 "range" := ⟨by kernel_rfl, by kernel_rfl⟩
noncomputable abbrev O_law3 : List Str := []
noncomputable abbrev M_law3 : List (Option Nat) := [none, none, none, none]
noncomputable def S_law4 : Scp := [(".0", .local), ("row", .local), ("Whitespace", .globalImplicit)]
theorem S_law4_1 : NmAt S_law4 1 "row" .local := ⟨rfl, by kernel_rfl⟩
theorem S_law4_2 : GlAt S_law4 "Whitespace" := ⟨by kernel_rfl, by kernel_rfl⟩
noncomputable abbrev O_law4 : List Str := []
noncomputable abbrev M_law4 : List (Option Nat) := [none, none, none]
noncomputable def S_law5 : Scp := [(".0", .local), ("i", .local), ("k", .local), ("lines", .cell)]
theorem S_law5_1 : NmAt S_law5 1 "i" .local := ⟨rfl, by kernel_rfl⟩
theorem S_law5_2 : NmAt S_law5 2 "k" .local := ⟨rfl, by kernel_rfl⟩
theorem S_law5_3 : NmAt S_law5 3 "lines" .cell := ⟨rfl, by kernel_rfl⟩
noncomputable abbrev O_law5 : List Str := []
noncomputable abbrev M_law5 : List (Option Nat) := [none, none, none, some 7]
noncomputable def S_law6 : Scp := [(".0", .local), ("i", .local), ("EXACT_TOKEN_TYPES", .globalImplicit), ("lines", .cell), ("rows", .cell)]
theorem S_law6_1 : NmAt S_law6 1 "i" .local := ⟨rfl, by kernel_rfl⟩
theorem S_law6_3 : NmAt S_law6 3 "lines" .cell := ⟨rfl, by kernel_rfl⟩
theorem S_law6_4 : NmAt S_law6 4 "rows" .cell := ⟨rfl, by kernel_rfl⟩
theorem S_law6_2 : GlAt S_law6 "EXACT_TOKEN_TYPES" := ⟨by kernel_rfl, by kernel_rfl⟩
noncomputable abbrev O_law6 : List Str := []
noncomputable abbrev M_law6 : List (Option Nat) := [none, none, none, some 7, some 5]
noncomputable def S_law7 : Scp := [(".0", .local), ("i", .local), ("k", .local), ("ISTERMINAL", .globalImplicit), ("NT_OFFSET", .globalImplicit), ("marks", .cell)]
theorem S_law7_1 : NmAt S_law7 1 "i" .local := ⟨rfl, by kernel_rfl⟩
theorem S_law7_2 : NmAt S_law7 2 "k" .local := ⟨rfl, by kernel_rfl⟩
theorem S_law7_5 : NmAt S_law7 5 "marks" .cell := ⟨rfl, by kernel_rfl⟩
theorem S_law7_3 : GlAt S_law7 "ISTERMINAL" := ⟨by kernel_rfl, by kernel_rfl⟩
theorem S_law7_4 : GlAt S_law7 "NT_OFFSET" := ⟨by kernel_rfl, by kernel_rfl⟩
noncomputable abbrev O_law7 : List Str := []
noncomputable abbrev M_law7 : List (Option Nat) := [none, none, none, none, none, some 10]
noncomputable def S_law8 : Scp := [(".0", .local), ("i", .local), ("k", .local), ("places", .cell)]
theorem S_law8_1 : NmAt S_law8 1 "i" .local := ⟨rfl, by kernel_rfl⟩
theorem S_law8_2 : NmAt S_law8 2 "k" .local := ⟨rfl, by kernel_rfl⟩
theorem S_law8_3 : NmAt S_law8 3 "places" .cell := ⟨rfl, by kernel_rfl⟩
noncomputable abbrev O_law8 : List Str := []
noncomputable abbrev M_law8 : List (Option Nat) := [none, none, none, some 4]
noncomputable def S_law9 : Scp := [(".0", .local), ("row", .local), ("sum", .globalImplicit), ("base", .cell)]
theorem S_law9_1 : NmAt S_law9 1 "row" .local := ⟨rfl, by kernel_rfl⟩
theorem S_law9_2 : GlAt S_law9 "sum" := ⟨by kernel_rfl, by kernel_rfl⟩
noncomputable abbrev O_law9 : List Str := []
noncomputable abbrev M_law9 : List (Option Nat) := [none, none, none, some 2]
noncomputable def S_law10 : Scp := [(".0", .local), ("k", .local), ("base", .cell)]
theorem S_law10_1 : NmAt S_law10 1 "k" .local := ⟨rfl, by kernel_rfl⟩
theorem S_law10_2 : NmAt S_law10 2 "base" .cell := ⟨rfl, by kernel_rfl⟩
noncomputable abbrev O_law10 : List Str := []
noncomputable abbrev M_law10 : List (Option Nat) := [none, none, some 3]
noncomputable def S_law11 : Scp := [(".0", .local), ("number", .local), ("octet", .local), ("_law_octets", .globalImplicit)]
theorem S_law11_1 : NmAt S_law11 1 "number" .local := ⟨rfl, by kernel_rfl⟩
theorem S_law11_2 : NmAt S_law11 2 "octet" .local := ⟨rfl, by kernel_rfl⟩
theorem S_law11_3 : GlAt S_law11 "_law_octets" := ⟨by kernel_rfl, by kernel_rfl⟩
noncomputable abbrev O_law11 : List Str := []
noncomputable abbrev M_law11 : List (Option Nat) := [none, none, none, none]
noncomputable def S_law12 : Scp := [(".0", .local), ("i", .local), ("_parse_varint", .globalImplicit), ("tape", .cell)]
theorem S_law12_1 : NmAt S_law12 1 "i" .local := ⟨rfl, by kernel_rfl⟩
theorem S_law12_3 : NmAt S_law12 3 "tape" .cell := ⟨rfl, by kernel_rfl⟩
theorem S_law12_2 : GlAt S_law12 "_parse_varint" := ⟨by kernel_rfl, by kernel_rfl⟩
noncomputable abbrev O_law12 : List Str := []
noncomputable abbrev M_law12 : List (Option Nat) := [none, none, none, some 14]
noncomputable def S_law13 : Scp := [(".0", .local), ("number", .local), ("ISEOF", .globalImplicit)]
theorem S_law13_1 : NmAt S_law13 1 "number" .local := ⟨rfl, by kernel_rfl⟩
theorem S_law13_2 : GlAt S_law13 "ISEOF" := ⟨by kernel_rfl, by kernel_rfl⟩
noncomputable abbrev O_law13 : List Str := []
noncomputable abbrev M_law13 : List (Option Nat) := [none, none, none]
noncomputable def S_law14 : Scp := [(".0", .local), ("row", .local)]
theorem S_law14_1 : NmAt S_law14 1 "row" .local := ⟨rfl, by kernel_rfl⟩
noncomputable abbrev O_law14 : List Str := []
noncomputable abbrev M_law14 : List (Option Nat) := [none, none]
noncomputable def S_law15 : Scp := [(".0", .local), ("number", .local), ("pretty_flags", .globalImplicit)]
theorem S_law15_1 : NmAt S_law15 1 "number" .local := ⟨rfl, by kernel_rfl⟩
theorem S_law15_2 : GlAt S_law15 "pretty_flags" := ⟨by kernel_rfl, by kernel_rfl⟩
noncomputable abbrev O_law15 : List Str := []
noncomputable abbrev M_law15 : List (Option Nat) := [none, none, none]
noncomputable def S_law16 : Scp := [(".0", .local), ("word", .cell), ("range", .globalImplicit), ("names", .cell)]
theorem S_law16_1 : NmAt S_law16 1 "word" .cell := ⟨rfl, by kernel_rfl⟩
theorem S_law16_2 : GlAt S_law16 "range" := ⟨by kernel_rfl, by kernel_rfl⟩
noncomputable abbrev O_law16 : List Str := ["word"]
noncomputable abbrev M_law16 : List (Option Nat) := [none, none, none, some 17]
noncomputable def S_law17 : Scp := [(".0", .local), ("k", .local), ("names", .cell), ("word", .cell)]
theorem S_law17_1 : NmAt S_law17 1 "k" .local := ⟨rfl, by kernel_rfl⟩
theorem S_law17_2 : NmAt S_law17 2 "names" .cell := ⟨rfl, by kernel_rfl⟩
theorem S_law17_3 : NmAt S_law17 3 "word" .cell := ⟨rfl, by kernel_rfl⟩
noncomputable abbrev O_law17 : List Str := []
noncomputable abbrev M_law17 : List (Option Nat) := [none, none, some 3, some 1]
noncomputable def S_law18 : Scp := [(".0", .local), ("row", .local), ("names", .cell)]
theorem S_law18_1 : NmAt S_law18 1 "row" .local := ⟨rfl, by kernel_rfl⟩
noncomputable abbrev O_law18 : List Str := []
noncomputable abbrev M_law18 : List (Option Nat) := [none, none, some 17]
noncomputable def S_law19 : Scp := [(".0", .local), ("k", .local), ("names", .cell)]
theorem S_law19_1 : NmAt S_law19 1 "k" .local := ⟨rfl, by kernel_rfl⟩
theorem S_law19_2 : NmAt S_law19 2 "names" .cell := ⟨rfl, by kernel_rfl⟩
noncomputable abbrev O_law19 : List Str := []
noncomputable abbrev M_law19 : List (Option Nat) := [none, none, some 2]
end
noncomputable section
open PySem PySem.W PyProof.Rows PyProof.Rows.LSm PySem.Spec PyProof.V PySem.Calls
section
variable {c : Cx} {n : Nat} {T : TS} {sc : Scp} {Γ : Gam} {l : List PyData} {ns : List Int} {i j k : Int} {x y : Str} {bs : List Nat} {b : Nat}
noncomputable def flagTab : List (PyData × PyData) := [(.int 1, .str "OPTIMIZED"), (.int 2, .str "NEWLOCALS"), (.int 4, .str "VARARGS"), (.int 8, .str "VARKEYWORDS"), (.int 16, .str "NESTED"), (.int 32, .str "GENERATOR"), (.int 64, .str "NOFREE"), (.int 128, .str "COROUTINE"), (.int 256, .str "ITERABLE_COROUTINE"), (.int 512, .str "ASYNC_GENERATOR")]
noncomputable def tokA : List (PyData × PyData) := [(.str "!", .int 54), (.str "!=", .int 28), (.str "%", .int 24), (.str "%=", .int 40), (.str "&", .int 19), (.str "&=", .int 41), (.str "(", .int 7), (.str ")", .int 8), (.str "*", .int 16), (.str "**", .int 35), (.str "**=", .int 46), (.str "*=", .int 38)]
noncomputable def tokB : List (PyData × PyData) := [(.str "+", .int 14), (.str "+=", .int 36), (.str ",", .int 12), (.str "-", .int 15), (.str "-=", .int 37), (.str "->", .int 51), (.str ".", .int 23), (.str "...", .int 52), (.str "/", .int 17), (.str "//", .int 47), (.str "//=", .int 48), (.str "/=", .int 39)]
noncomputable def tokC : List (PyData × PyData) := [(.str ":", .int 11), (.str ":=", .int 53), (.str ";", .int 13), (.str "<", .int 20), (.str "<<", .int 33), (.str "<<=", .int 44), (.str "<=", .int 29), (.str "=", .int 22), (.str "==", .int 27), (.str ">", .int 21), (.str ">=", .int 30), (.str ">>", .int 34)]
noncomputable def tokD : List (PyData × PyData) := [(.str ">>=", .int 45), (.str "@", .int 49), (.str "@=", .int 50), (.str "[", .int 9), (.str "]", .int 10), (.str "^", .int 32), (.str "^=", .int 43), (.str "{", .int 25), (.str "|", .int 18), (.str "|=", .int 42), (.str "}", .int 26), (.str "~", .int 31)]
noncomputable def tokTab : List (PyData × PyData) := tokA ++ (tokB ++ (tokC ++ tokD))
structure GlB (c : Cx) : Prop where
  len : c.mg "len" = none
  max : c.mg "max" = none
  range : c.mg "range" = none
  sum : c.mg "sum" = none
  sorted : c.mg "sorted" = none
  enum : c.mg "enumerate" = none
  tuple : c.mg "tuple" = none
  hex : c.mg "hex" = none
  next : c.mg "next" = none
  iter : c.mg "iter" = none
  bytes : c.mg "bytes" = none
  list : c.mg "list" = none
  all : c.mg "all" = none
structure GlC (c : Cx) : Prop where
  cls : c.mg "Whitespace" = some (.ref c.C)
  kC : keepIn c.K (.ref c.C) = true
  cS : ∃ mc t, readsIn c.K c.C mc = true ∧ findCls c.K (.ref c.C) mc "S" = some (.val (.str " " t))
  cT : ∃ mc t, readsIn c.K c.C mc = true ∧ findCls c.K (.ref c.C) mc "T" = some (.val (.str "\t" t))
  m_init : MethAt c "__init__" B_init.1 S_init ["self", "ws"]
  m_longest : MethAt c "longest_run_of_spaces" B_longest.1 S_longest ["self"]
  m_indent : MethAt c "indent_level" B_indent.1 S_indent ["self", "tabsize"]
structure GlT (c : Cx) : Prop where
  fl : ∃ D, c.mg "COMPILER_FLAG_NAMES" = some (.ref D) ∧ IntTab c.prog c.w c.h₀ D flagTab
  tk : ∃ D, c.mg "EXACT_TOKEN_TYPES" = some (.ref D) ∧ StrTab c.prog c.w c.h₀ D tokTab
  nt : ∃ t, c.mg "NT_OFFSET" = some (.int 256 t)
  em : ∃ t, c.mg "ENDMARKER" = some (.int 0 t)
structure GlF (c : Cx) : Prop where
  f_flags : FnAt c "pretty_flags" B_flags.1 S_flags ["flags"]
  f_varint : FnAt c "_parse_varint" B_varint.1 S_varint ["iterator"]
  f_term : FnAt c "ISTERMINAL" B_term.1 S_term ["x"]
  f_eof : FnAt c "ISEOF" B_eof.1 S_eof ["x"]
  f_signs : FnAt c "_law_signs" B_signs.1 S_signs []
  f_numbers : FnAt c "_law_numbers" B_numbers.1 S_numbers ["script"]
  f_octets : FnAt c "_law_octets" B_octets.1 S_octets ["number"]
structure Gl (c : Cx) : Prop where
  ok : c.OK
  b : GlB c
  k : GlC c
  t : GlT c
  f : GlF c
theorem fx_range (G : Gl c) : Fx c "range" (.type "range") := .inr ⟨G.b.range, by kernel_rfl, by decide +kernel⟩
theorem fx_enum (G : Gl c) : Fx c "enumerate" (.type "enumerate") := .inr ⟨G.b.enum, by kernel_rfl, by decide +kernel⟩
theorem fx_iter (G : Gl c) : Fx c "iter" (.builtin "iter") := .inr ⟨G.b.iter, by kernel_rfl, by decide +kernel⟩
theorem fx_bytes (G : Gl c) : Fx c "bytes" (.type "bytes") := .inr ⟨G.b.bytes, by kernel_rfl, by decide +kernel⟩
theorem cLen {d : D} (G : Gl c) (h : Call c n (.builtin "len") [d] T (.p (.int k)) T) : CallN c n "len" [d] T (.p (.int k)) T := .bi G.b.len (by kernel_rfl) (by decide +kernel) h
theorem cLenL (G : Gl c) (q : l.length ≤ 1000000) : CallN c n "len" [.p (.list l)] T (.p (.int l.length)) T := cLen G (Call.lenL q)
theorem cLenT (G : Gl c) (q : l.length ≤ 1000000) : CallN c n "len" [.p (.tuple l)] T (.p (.int l.length)) T := cLen G (Call.lenT q)
theorem cLenS (G : Gl c) (q : x.length ≤ 1000000) : CallN c n "len" [.p (.str x)] T (.p (.int x.length)) T := cLen G (Call.lenS q)
theorem cMax {ds : List D} (G : Gl c) (h : Call c n (.builtin "max") ds T (.p (.int k)) T) : CallN c n "max" ds T (.p (.int k)) T := .bi G.b.max (by kernel_rfl) (by decide +kernel) h
theorem cSum (G : Gl c) : CallN c n "sum" [.p (.list (ns.map .int))] T (.p (.int ns.sum)) T := .bi G.b.sum (by kernel_rfl) (by decide +kernel) Call.sum
theorem cSorted {out : List Int} (G : Gl c) (hl : ns.length < 64) (hp : out.Perm ns) (hs : out.Pairwise (· ≤ ·)) : CallN c n "sorted" [.p (.list (ns.map .int))] T (.p (.list (out.map .int))) T := .bi G.b.sorted (by kernel_rfl) (by decide +kernel) (Call.sorted hl hp hs)
theorem cTuple (G : Gl c) (q : l.length ≤ 1000000) : CallN c n "tuple" [.p (.list l)] T (.p (.tuple l)) T := .ty G.b.tuple (by kernel_rfl) (by decide +kernel) (Call.tuple q)
theorem cHex (G : Gl c) (q : (baseText "0x" 16 i).length ≤ sizeLine) : CallN c n "hex" [.p (.int i)] T (.p (.str (baseText "0x" 16 i))) T := .bi G.b.hex (by kernel_rfl) (by decide +kernel) (Call.hex q)
theorem cNext (G : Gl c) : CallN c n "next" [.tape] ⟨some (b :: bs), none⟩ (.p (.int b)) ⟨some bs, none⟩ := .bi G.b.next (by kernel_rfl) (by decide +kernel) Call.next
theorem cListT (G : Gl c) : CallN c n "list" [.tape] ⟨some [], none⟩ (.p (.list [])) ⟨some [], none⟩ := .ty G.b.list (by kernel_rfl) (by decide +kernel) Call.listTape
theorem mSplit {xs : List Str} (h : Txt.split x y = xs) (hy : (y.length == 0) = false) (hx : x.length ≤ sizeLine) (hz : (Builtin.Str.partsBetween x (Builtin.Str.occurrences x y 0 x.length (x.length + 1)) y.length).length ≤ sizeLine) : CallM c n (.p (.str x)) "split" [.p (.str y)] T (.p (.list (xs.map .str))) T := ⟨_, Meth.split, Keep3.builtin, Call.split h hy hx hz⟩
theorem mJoin {xs : List Str} (h : (xs.map (·.length)).sum + xs.length * x.length ≤ 16777216) : CallM c n (.p (.str x)) "join" [.p (.list (xs.map .str))] T (.p (.str (Txt.join x xs))) T := ⟨_, Meth.join, Keep3.builtin, Call.join h⟩
theorem EvI.cast {t e : PySem.Expr} {T' : TS} {ds ds' : List PyData} (h : EvI c n sc Γ T t e ds T') (q : ds = ds') : EvI c n sc Γ T t e ds' T' := q ▸ h
theorem rng_small {a b : Int} (h : 0 ≤ a ∧ a ≤ 1000000 ∧ 0 ≤ b ∧ b ≤ 1000000) : Builtin.Range.small a b 1 = true :=
  small_one (Int.le_trans (by decide) h.1) (Int.lt_of_le_of_lt h.2.1 (by decide)) (Int.le_trans (by decide) h.2.2.1) (Int.lt_of_le_of_lt h.2.2.2 (by decide))
theorem rng2 {es : List PySem.Expr} {t : PySem.Expr} {np pos : Pos} {T' : TS} {a b : Int} (q : GlAt sc "range") (G : Gl c) (hp : NoStar es) (hg : EvL c n sc Γ T es [.p (.int a), .p (.int b)] T') (h : 0 ≤ a ∧ a ≤ 1000000 ∧ 0 ≤ b ∧ b ≤ 1000000) (ht : ∀ it v, letOwnedTupleGo t it v = pure ()) : EvI c n sc Γ T t (.Call (.Name "range" np) es [] pos) ((List.range (b - a).toNat).map fun q : Nat => .int (a + q)) T' := by
  have e := EvI.range (N := (b - a).toNat) (q.gn (fx_range G)) hp hg RangeCall.two (rng_small h) (rangeSize_nat a b) ht (np := np) (pos := pos)
  simpa only [Int.mul_one] using e
theorem rng1 {es : List PySem.Expr} {t : PySem.Expr} {np pos : Pos} {T' : TS} {b : Int} (q : GlAt sc "range") (G : Gl c) (hp : NoStar es) (hg : EvL c n sc Γ T es [.p (.int b)] T') (h : 0 ≤ b ∧ b ≤ 1000000) (ht : ∀ it v, letOwnedTupleGo t it v = pure ()) : EvI c n sc Γ T t (.Call (.Name "range" np) es [] pos) ((List.range b.toNat).map fun q : Nat => .int q) T' := by
  have e := EvI.range (N := (b - 0).toNat) (q.gn (fx_range G)) hp hg RangeCall.one (rng_small ⟨Int.le_refl _, by decide, h⟩) (rangeSize_nat 0 b) ht (np := np) (pos := pos)
  simpa only [Int.mul_one, Int.zero_add, Int.sub_zero] using e
theorem swC {sc : Scp} {k : Nat} {x : Str} {elt : PySem.Expr} {gens : List Comprehension} {scope : Scope} {pos px : Pos} {ln : Nat} (q : NmAt sc k x .cell) (env : Env) (es : EnvS sc env) : swapsWith (.ListComp elt gens scope pos) (some (.Name x px)) ln env = pure false := by
  have h := es.kind q.hk
  show (pure (env.blockKind == .function && env.kindOf x == some .local && px.line == pos.line && !(scope.names.any fun (n, k) => n == x && (k == .local || k == .cell))) : Sem Bool) = pure false
  rw [h, show (some NameKind.cell == some NameKind.local) = false from rfl, Bool.and_false, Bool.false_and, Bool.false_and]
theorem swL {sc : Scp} {k : Nat} {x : Str} {elt : PySem.Expr} {gens : List Comprehension} {scope : Scope} {pos px : Pos} {ln : Nat} (q : NmAt sc k x .local) (h1 : (px.line == pos.line && !(scope.names.any fun (n, k) => n == x && (k == .local || k == .cell))) = true) (env : Env) (es : EnvS sc env) : swapsWith (.ListComp elt gens scope pos) (some (.Name x px)) ln env = pure true := by
  have h := es.kind q.hk
  obtain ⟨h2, h3⟩ := Bool.and_eq_true_iff.mp h1
  show (pure (env.blockKind == .function && env.kindOf x == some .local && px.line == pos.line && !(scope.names.any fun (n, k) => n == x && (k == .local || k == .cell))) : Sem Bool) = pure true
  rw [h, h2, h3, Env.blockKind, es.fk]
  rfl
theorem Ex.fn {x : Str} {b : List Stmt} {sc : Scp} {ow pn : List Str} {ds : List D} {fl : Fl} {Γ Γ' : Gam} {T T' : TS} {d : D} {k : Nat} (ex : Ex c n sc ow Γ T b fl Γ' T') (h : FnAt c x b sc pn) (q : scB sc ow pn = true) (hΓ : Γ = fnG ds ++ List.replicate k none) (hl : ds.length = pn.length) (hf : Gives fl d) (hT : (T.tape = none ↔ T'.tape = none) ∧ T'.self = none ∧ T.self = none) : CallN c (n + 1) x ds T d T' :=
  CallN.fn h (ScOK.of q) hl (ex.gro (hΓ ▸ le_fn)) hf hT
theorem Ex.mth {x : Str} {b : List Stmt} {sc : Scp} {ow pn : List Str} {ds : List D} {fl : Fl} {Γ Γ' : Gam} {T T' : TS} {d : D} {k : Nat} {fs : Flds} (ex : Ex c n sc ow Γ T b fl Γ' T') (h : MethAt c x b sc pn) (q : scB sc ow pn = true) (hΓ : Γ = fnG (.ws fs :: ds) ++ List.replicate k none) (hl : ds.length + 1 = pn.length) (hn : fs.lookup x = none) (hf : Gives fl d) (hT : (T.tape = none ↔ T'.tape = none) ∧ T'.self = none ∧ T.self = none) : CallM c (n + 1) (.ws fs) x ds T d T' :=
  CallM.ws h (ScOK.of q) hl hn (ex.gro (hΓ ▸ le_fn)) hf hT
noncomputable abbrev TT (T : TS) : Prop := (T.tape = none ↔ T.tape = none) ∧ T.self = none ∧ T.self = none
theorem tt {o : Option (List Nat)} : TT ⟨o, none⟩ := ⟨Iff.rfl, rfl, rfl⟩
end
end
noncomputable section
open PySem PySem.W PyProof.Rows PyProof.Rows.LSm PySem.Spec PyProof.V PySem.Calls
section
variable {c : Cx} {n : Nat} {T : TS}
noncomputable def colS (size col : Int) (q : Nat) : Int := bif (⟨#[q]⟩ : Str) == " " then col + 1 else col - col.fmod size + size
noncomputable def colF (size : Int) (x : Str) : Int := x.cps.toList.foldl (colS size) 0
theorem column_ex {x : Str} {size : Int} (hs : size ≠ 0) : Ex c n S_column [] [some (.v (.p (.str x))), some (.v (.p (.int size))), none, none] T B_column.1 (.ret (.p (.int (colF size x)))) [] T := by
  show Ex _ _ _ _ _ _ (_ :: _) _ _ _
  refine' Ex.cons (X1.assign (fun _ _ => rfl) Ev.int S_column_2.hk (Nat.le_of_ble_eq_true (by kernel_rfl)) (.inl rfl)) ?_; rotate_right
  refine' Ex.cons (X1.for (fun _ _ => rfl) (EvI.str (Ev.namV S_column_0 rfl) fun _ _ => rfl) ?r) ?k
  case r =>
    refine' Run.fold (fun col : Int => [some (.v (.p (.str x))), some (.v (.p (.int size))), some (.v (.p (.int col))), none]) (colS size) (s := 0) (fun _ => True) trivial (fun _ _ _ _ => trivial) (fun col q _ _ => ?_) fun _ => Ex.nil
    refine' Turn.mk (Tg.name S_column_3.hk (Nat.le_of_ble_eq_true (by kernel_rfl)) (.inl rfl)) ?ex ?le
    case ex => refine' Ex.cons (X1.assign (fun _ _ => rfl) (Ev.iteI (Tr.cmp (Ev.namV S_column_3 rfl) Ev.str Cmp.eqS rfl) (Ev.bin (Ev.namV S_column_2 rfl) Ev.int Bin.add) (Ev.bin (Ev.bin (Ev.namV S_column_2 rfl) (Ev.bin (Ev.namV S_column_2 rfl) (Ev.namV S_column_1 rfl) (Bin.mod (by first | assumption | decide | (first | (simp +arith only; done) | lia | omega)))) Bin.sub) (Ev.namV S_column_1 rfl) Bin.add)) S_column_2.hk (Nat.le_of_ble_eq_true (by kernel_rfl)) (.inl rfl)) ?_; rotate_right; exact Ex.nil
    case le => exact .same _ _ _ (.same _ _ _ (.same _ _ _ (.skip _ _ _ (.nil _))))
  case k => refine' Ex.stop (X1.ret (Ev.namV S_column_2 rfl)) Fl.noConfusion
end
end
noncomputable section
open PySem PySem.W PyProof.Rows PyProof.Rows.LSm PySem.Spec PyProof.V PySem.Calls
section
variable {c : Cx} {n : Nat} {T : TS} {tp : Option (List Nat)}
noncomputable def octGo : Nat → Int → List Int → List Int
  | 0, _, l => l
  | f + 1, z, l => bif decide (63 < z) then octGo f (z.fdiv 64) (((z.fdiv 64).fmod 64 + 64) :: l) else l
noncomputable def octF (z : Int) : List Int := match octGo 10 z [z.fmod 64] with
  | [] => []
  | a :: l => (a + 128) :: l
theorem octGo_len : ∀ {f z l}, (octGo f z l).length ≤ l.length + f := fun {f} => by
  induction f with
  | zero => intro z l; exact Nat.le_refl _
  | succ f ih =>
    intro z l
    unfold octGo
    cases decide (63 < z) with
    | false => exact Nat.le_add_right ..
    | true => refine Nat.le_trans ih ?_; simp; (first | (simp +arith only; done) | lia | omega)
theorem octGo_ne : ∀ {f z l}, l ≠ [] → octGo f z l ≠ [] := fun {f} => by
  induction f with
  | zero => intro z l h; exact h
  | succ f ih =>
    intro z l h
    unfold octGo
    cases decide (63 < z) with
    | false => exact h
    | true => exact ih (by simp)
theorem octLoop {test : PySem.Expr} {body : List Stmt} (ht : ∀ z l, Tr c n S_octets (hide [some (.v (.p (.int z))), some (.own l)]) T test (decide (63 < z)) T) (hb : ∀ z (l : List Int), l.length ≤ 1000 → Ex c n S_octets [] [some (.v (.p (.int z))), some (.own (l.map .int))] T body .next [some (.v (.p (.int (z.fdiv 64)))), some (.own ((((z.fdiv 64).fmod 64 + 64) :: l).map .int))] T) :
    ∀ (f : Nat) (z : Int) (l : List Int), l.length + f ≤ 1000 → 0 ≤ z → z < 64 ^ (f + 1) → ∃ k, Loop c n S_octets [] test body [] [none, some (.own ((octGo f z l).map .int))] T k [some (.v (.p (.int z))), some (.own (l.map .int))] T .next := fun f => by
  have fin : ∀ (z : Int) (l : List Int), ¬ 63 < z → Loop c n S_octets [] test body [] [none, some (.own (l.map .int))] T 0 [some (.v (.p (.int z))), some (.own (l.map .int))] T .next := fun z l h =>
    .done _ _ _ _ (decide_eq_false h ▸ ht z (l.map .int)) (Ex.le Ex.nil (LeL.le (.skip _ _ _ (.same _ _ _ (.nil _)))))
  induction f with
  | zero => intro z l _ h0 h; exact ⟨0, fin z l (by (first | (simp +arith only; done) | lia | omega))⟩
  | succ f ih =>
    intro z l hl h0 h
    unfold octGo
    cases e : decide (63 < z) with
    | false => exact ⟨0, fin z l (of_decide_eq_false e)⟩
    | true =>
      have hz : z.fdiv 64 = z / 64 := Int.fdiv_eq_ediv_of_nonneg _ (by decide)
      obtain ⟨k, q⟩ := ih (z.fdiv 64) (((z.fdiv 64).fmod 64 + 64) :: l) (by simp; (first | (simp +arith only; done) | lia | omega)) (by rw [hz]; (first | (simp +arith only; done) | lia | omega)) (by rw [hz]; rw [Int.pow_succ] at h; (first | (simp +arith only; done) | lia | omega))
      exact ⟨k + 1, .next _ _ _ _ _ _ _ (e ▸ ht z (l.map .int)) (hb z l (by (first | (simp +arith only; done) | lia | omega))) q⟩
theorem octets_ex {z : Int} (h0 : 0 ≤ z) (hz : z < 2 ^ 40) : Ex c n S_octets [] [some (.v (.p (.int z))), none] T B_octets.1 (.ret (.p (.list ((octF z).map .int)))) [] T := by
  show Ex _ _ _ _ _ _ (_ :: _) _ _ _
  refine' Ex.cons (X1.own (l := [.int (z.fmod 64)]) (fun _ _ => rfl) (.inl (EvO.list (EvP.cons (Ev.bin (Ev.namV S_octets_0 rfl) Ev.int (Bin.mod (by first | assumption | decide | (first | (simp +arith only; done) | lia | omega)))) EvP.nil fun _ => rfl) (by simp))) (fun d m => by cases List.mem_singleton.mp m; exact Flt.int) S_octets_1.hk (Nat.le_of_ble_eq_true (by kernel_rfl)) (.inl rfl)) ?_
  refine' Ex.cons (X1.while (Classical.choose_spec (octLoop (c := c) (n := n) (T := T) (fun z l => (Tr.cmp (Ev.namV S_octets_0 rfl) Ev.int Cmp.gt rfl)) (fun z l hl => ?b) 10 z [z.fmod 64] (by simp) h0 (by (first | (simp +arith only; done) | lia | omega))))) ?_
  case b =>
    show Ex _ _ _ _ _ _ (_ :: _) _ _ _
    refine' Ex.cons (X1.assign (fun _ _ => rfl) (Ev.bin (Ev.namV S_octets_0 rfl) Ev.int (Bin.fdiv (by first | assumption | decide | (first | (simp +arith only; done) | lia | omega)))) S_octets_0.hk (Nat.le_of_ble_eq_true (by kernel_rfl)) (.inl rfl)) ?_; rotate_right
    refine' Ex.cons (X1.write F.slot_list_insert F.type_list_insert (fun _ _ => rfl) (EvL.cons Ev.int (EvL.cons (Ev.bin (Ev.bin (Ev.namV S_octets_0 rfl) Ev.int (Bin.mod (by first | assumption | decide | (first | (simp +arith only; done) | lia | omega)))) Ev.int Bin.add) EvL.nil fun _ => rfl) fun _ => rfl) (Wr.insert0 (by rw [List.length_map]; (first | (simp +arith only; done) | lia | omega))) (fun _ => by kernel_rfl) S_octets_1.hk (Nat.le_of_ble_eq_true (by kernel_rfl)) S_octets_1.hd rfl rfl) Ex.nil
  generalize hG : octGo 10 z [z.fmod 64] = G
  have len := octGo_len (f := 10) (z := z) (l := [z.fmod 64])
  have ne := octGo_ne (f := 10) (z := z) (l := [z.fmod 64]) (by simp)
  rw [hG] at len ne
  obtain ⟨a, l, rfl⟩ := List.exists_cons_of_ne_nil ne
  refine' Ex.cons (X1.augItem (z := 0) (d₁ := .int a) (d₂ := .int 128) (d₃ := .int (a + 128)) Ev.int Ev.int (fun _ _ _ _ _ _ _ => Hop.add (c := c) _ _ _ _ _ _ _) ⟨Int.le_refl _, rfl, by simp at len ⊢; (first | (simp +arith only; done) | lia | omega)⟩ S_octets_1.hk (Nat.le_of_ble_eq_true (by kernel_rfl)) S_octets_1.hd rfl rfl fun _ _ _ => rfl) ?_
  have e : octF z = (a + 128) :: l := by unfold octF; rw [hG]
  rw [e]
  refine' Ex.stop (X1.ret (Ev.namO S_octets_1 rfl)) Fl.noConfusion
end
end
noncomputable section
open PySem PySem.W PyProof.Rows PyProof.Rows.LSm PySem.Spec PyProof.V PySem.Calls
section
variable {c : Cx} {n : Nat} {T : TS} {tp : Option (List Nat)} {t : PySem.Expr} {test : PySem.Expr} {body orelse : List Stmt}
noncomputable def vF : List Nat → Nat → Int → Option (Int × List Nat)
  | [], b, z => bif Builtin.bitAnd b 64 != 0 then none else some (z, [])
  | b' :: r, b, z => bif Builtin.bitAnd b 64 != 0 then (bif decide (z.natAbs < 2 ^ 64) then vF r b' (Builtin.bitOr (z * 2 ^ (6 : Int).toNat) (Builtin.bitAnd b' 63)) else none) else some (z, b' :: r)
theorem varLoop (ht : ∀ (b : Nat) z bs, Tr c n S_varint (hide [some (.v .tape), some (.v (.p (.int b))), some (.v (.p (.int z)))]) ⟨some bs, none⟩ test (Builtin.bitAnd b 64 != 0) ⟨some bs, none⟩)
    (hb : ∀ (b b' : Nat) z bs, z.natAbs < 2 ^ 64 → Ex c n S_varint [] [some (.v .tape), some (.v (.p (.int b))), some (.v (.p (.int z)))] ⟨some (b' :: bs), none⟩ body .next [some (.v .tape), some (.v (.p (.int b'))), some (.v (.p (.int (Builtin.bitOr (z * 2 ^ (6 : Int).toNat) (Builtin.bitAnd b' 63)))))] ⟨some bs, none⟩) :
    ∀ (bs : List Nat) (b : Nat) (z : Int) {v r}, vF bs b z = some (v, r) → ∃ k, Loop c n S_varint [] test body [] [none, none, some (.v (.p (.int v)))] ⟨some r, none⟩ k [some (.v .tape), some (.v (.p (.int b))), some (.v (.p (.int z)))] ⟨some bs, none⟩ .next := fun bs => by
  have fin : ∀ (b : Nat) z bs, (Builtin.bitAnd b 64 != 0) = false → Loop c n S_varint [] test body [] [none, none, some (.v (.p (.int z)))] ⟨some bs, none⟩ 0 [some (.v .tape), some (.v (.p (.int b))), some (.v (.p (.int z)))] ⟨some bs, none⟩ .next := fun b z bs h =>
    .done _ _ _ _ (h ▸ ht b z bs) (Ex.le Ex.nil (LeL.le (.skip _ _ _ (.skip _ _ _ (.same _ _ _ (.nil _))))))
  induction bs with
  | nil =>
    intro b z v r h
    unfold vF at h
    cases e : Builtin.bitAnd b 64 != 0 with
    | true => rw [e] at h; cases h
    | false => rw [e] at h; cases h; exact ⟨0, fin b z [] e⟩
  | cons b' bs ih =>
    intro b z v r h
    unfold vF at h
    cases e : Builtin.bitAnd b 64 != 0 with
    | false => rw [e] at h; cases h; exact ⟨0, fin b z _ e⟩
    | true =>
      rw [e] at h
      cases e2 : decide (z.natAbs < 2 ^ 64) with
      | false => rw [e2] at h; cases h
      | true =>
        rw [e2] at h
        obtain ⟨k, q⟩ := ih b' _ h
        exact ⟨k + 1, .next _ _ _ _ _ _ _ (e ▸ ht b z _) (hb b b' z bs (of_decide_eq_true e2)) q⟩
theorem varint_ex (G : Gl c) {b : Nat} {bs r : List Nat} {v : Int} (h : vF bs b (Builtin.bitAnd b 63) = some (v, r)) : Ex c n S_varint [] [some (.v .tape), none, none] ⟨some (b :: bs), none⟩ B_varint.1 (.ret (.p (.int v))) [] ⟨some r, none⟩ := by
  show Ex _ _ _ _ _ _ (_ :: _) _ _ _
  refine' Ex.cons (X1.assign (fun _ _ => rfl) (Ev.callN S_varint_3 (fun _ _ => rfl) (EvL.cons (Ev.namV S_varint_0 rfl) EvL.nil fun _ => rfl) (cNext G)) S_varint_1.hk (Nat.le_of_ble_eq_true (by kernel_rfl)) (.inl rfl)) ?_; rotate_right
  refine' Ex.cons (X1.assign (fun _ _ => rfl) (Ev.bin (Ev.namV S_varint_1 rfl) Ev.int Bin.and) S_varint_2.hk (Nat.le_of_ble_eq_true (by kernel_rfl)) (.inl rfl)) ?_; rotate_right
  refine' Ex.cons (X1.while (Classical.choose_spec (varLoop (c := c) (n := n) (fun b z bs => (Tr.val (Ev.bin (Ev.namV S_varint_1 rfl) Ev.int Bin.and) fun _ _ => rfl)) (fun b b' z bs hz => ?b) bs b (Builtin.bitAnd b 63) h))) ?_
  case b =>
    show Ex _ _ _ _ _ _ (_ :: _) _ _ _
    refine' Ex.cons (X1.aug (d₁ := .int z) (d₂ := .int 6) (d₃ := .int (z * 2 ^ (6 : Int).toNat)) (fun _ _ _ _ _ _ _ => Hop.shl (c := c) ⟨by decide, by decide, hz⟩ _ _ _ _ _ _ _) rfl Ev.int Flt.int S_varint_2.hk (Nat.le_of_ble_eq_true (by kernel_rfl))) ?_
    refine' Ex.cons (X1.assign (fun _ _ => rfl) (Ev.callN S_varint_3 (fun _ _ => rfl) (EvL.cons (Ev.namV S_varint_0 rfl) EvL.nil fun _ => rfl) (cNext G)) S_varint_1.hk (Nat.le_of_ble_eq_true (by kernel_rfl)) (.inl rfl)) ?_; rotate_right
    refine' Ex.cons (X1.aug (d₁ := .int (z * 2 ^ (6 : Int).toNat)) (d₂ := .int (Builtin.bitAnd b' 63)) (d₃ := .int (Builtin.bitOr (z * 2 ^ (6 : Int).toNat) (Builtin.bitAnd b' 63))) (fun _ _ _ _ _ _ _ => Hop.or (c := c) _ _ _ _ _ _ _) rfl (Ev.bin (Ev.namV S_varint_1 rfl) Ev.int Bin.and) Flt.int S_varint_2.hk (Nat.le_of_ble_eq_true (by kernel_rfl))) ?_
    exact Ex.nil
  refine' Ex.stop (X1.ret (Ev.namV S_varint_2 rfl)) Fl.noConfusion
theorem map_app1 {α : Type} {f : α → PyData} {l : List α} {a : α} : l.map f ++ [f a] = (l ++ [a]).map f := by rw [List.map_append]; rfl
noncomputable def flagI (q : Nat) : Int := 1 * 2 ^ (0 + (q : Int) * 1).toNat
noncomputable def strOf : PyData → Str
  | .str x => x
  | _ => ""
noncomputable def nmF (tab : List (PyData × PyData)) (q : Nat) : Str := strOf ((lookup (.int (flagI q)) tab).getD (.str (baseText "0x" 16 (flagI q))))
noncomputable def pfGo (tab : List (PyData × PyData)) : List Nat → Int → List Str → List Str
  | [], z, l => l ++ [baseText "0x" 16 z]
  | q :: r, z, l => bif Builtin.bitAnd z (flagI q) != 0 then (bif Builtin.bitXor z (flagI q) != 0 then pfGo tab r (Builtin.bitXor z (flagI q)) (l ++ [nmF tab q]) else l ++ [nmF tab q]) else pfGo tab r z l
theorem pfGo_cons {tab : List (PyData × PyData)} {q : Nat} {r : List Nat} {z : Int} {l : List Str} : pfGo tab (q :: r) z l = bif Builtin.bitAnd z (flagI q) != 0 then (bif Builtin.bitXor z (flagI q) != 0 then pfGo tab r (Builtin.bitXor z (flagI q)) (l ++ [nmF tab q]) else l ++ [nmF tab q]) else pfGo tab r z l := rfl
theorem flagsRun {tab : List (PyData × PyData)} (I : Int → Prop) (hI : ∀ z q, q < 32 → I z → I (Builtin.bitXor z (flagI q))) (h1 : ∀ z (l : List Str) q, q < 32 → (Builtin.bitAnd z (flagI q) != 0) = false → Turn c n S_flags [] t body [some (.v (.p (.int z))), some (.own (l.map .str)), none, none] T (.int (0 + (q : Int) * 1)) .next [some (.v (.p (.int z))), some (.own (l.map .str)), none, none] T)
    (h2 : ∀ z (l : List Str) q, q < 32 → l.length ≤ 1000 → (Builtin.bitAnd z (flagI q) != 0) = true → (Builtin.bitXor z (flagI q) != 0) = true → Turn c n S_flags [] t body [some (.v (.p (.int z))), some (.own (l.map .str)), none, none] T (.int (0 + (q : Int) * 1)) .next [some (.v (.p (.int (Builtin.bitXor z (flagI q))))), some (.own ((l ++ [nmF tab q]).map .str)), none, none] T)
    (h3 : ∀ z (l : List Str) q, q < 32 → l.length ≤ 1000 → (Builtin.bitAnd z (flagI q) != 0) = true → (Builtin.bitXor z (flagI q) != 0) = false → Turn c n S_flags [] t body [some (.v (.p (.int z))), some (.own (l.map .str)), none, none] T (.int (0 + (q : Int) * 1)) .brk [none, some (.own ((l ++ [nmF tab q]).map .str)), none, none] T)
    (h4 : ∀ z (l : List Str), I z → l.length ≤ 1000 → Ex c n S_flags [] [some (.v (.p (.int z))), some (.own (l.map .str)), none, none] T orelse .next [none, some (.own ((l ++ [baseText "0x" 16 z]).map .str)), none, none] T) :
    ∀ (r : List Nat) z (l : List Str), I z → (∀ q ∈ r, q < 32) → l.length + r.length ≤ 1000 → Run c n S_flags [] t body orelse [none, some (.own ((pfGo tab r z l).map .str)), none, none] T [some (.v (.p (.int z))), some (.own (l.map .str)), none, none] T (r.map fun q : Nat => .int (0 + (q : Int) * 1)) .next := fun r => by
  induction r with
  | nil => intro z l hz _ hl; exact .done _ _ _ (h4 z l hz hl)
  | cons q r ih =>
    intro z l hz hr hl
    rw [List.length_cons] at hl
    have hq := hr q (List.mem_cons_self ..)
    have hr' := fun a m => hr a (List.mem_cons_of_mem _ m)
    rw [pfGo_cons]
    cases e : Builtin.bitAnd z (flagI q) != 0 with
    | false => exact .next _ _ _ _ _ _ _ (h1 z l q hq e) (ih z l hz hr' (by (first | (simp +arith only; done) | lia | omega)))
    | true =>
      cases e2 : Builtin.bitXor z (flagI q) != 0 with
      | true => exact .next _ _ _ _ _ _ _ (h2 z l q hq (by (first | (simp +arith only; done) | lia | omega)) e e2) (ih _ _ (hI z q hq hz) hr' (by simp; (first | (simp +arith only; done) | lia | omega)))
      | false => exact .brk _ _ _ _ (h3 z l q hq (by (first | (simp +arith only; done) | lia | omega)) e e2)
theorem flags_ex (G : Gl c) {tab : List (PyData × PyData)} {D : Addr} (hv : c.mg "COMPILER_FLAG_NAMES" = some (.ref D)) (ht : IntTab c.prog c.w c.h₀ D tab) (hs : ∀ q < 32, (lookup (.int (flagI q)) tab).getD (.str (baseText "0x" 16 (flagI q))) = .str (nmF tab q) ∧ (baseText "0x" 16 (flagI q)).length ≤ sizeLine)
    (I : Int → Prop) (hI : ∀ z q, q < 32 → I z → I (Builtin.bitXor z (flagI q))) (hx : ∀ z, I z → (baseText "0x" 16 z).length ≤ sizeLine) {z : Int} (hz : I z) (hj : ((pfGo tab (List.range 32) z []).map (·.length)).sum + (pfGo tab (List.range 32) z []).length * (", " : Str).length ≤ 16777216) :
    Ex c n S_flags [] [some (.v (.p (.int z))), none, none, none] T B_flags.1 (.ret (.p (.str (Txt.join ", " (pfGo tab (List.range 32) z []))))) [] T := by
  show Ex _ _ _ _ _ _ (_ :: _) _ _ _
  refine' Ex.cons (X1.own (l := []) (fun _ _ => rfl) (.inl (EvO.list EvP.nil (by simp))) (fun d m => nomatch m) S_flags_1.hk (Nat.le_of_ble_eq_true (by kernel_rfl)) (.inl rfl)) ?_
  refine' Ex.cons (X1.for (fun _ _ => rfl) (EvI.range (N := 32) (GlAt.gn S_flags_4 (fx_range G)) (fun _ _ => rfl) (EvL.cons Ev.int EvL.nil fun _ => rfl) RangeCall.one rfl rfl fun _ _ => rfl) (flagsRun (tab := tab) I hI (fun z l q hq e => ?a) (fun z l q hq hl e e2 => ?b) (fun z l q hq hl e e2 => ?d) (fun z l hz' hl => ?f) (List.range 32) z [] hz (fun q m => List.mem_range.mp m) (by simp))) ?_
  case a =>
    refine' Turn.mk (Tg.name S_flags_2.hk (Nat.le_of_ble_eq_true (by kernel_rfl)) (.inl rfl)) ?ex ?le
    case ex =>
      refine' Ex.cons (X1.assign (fun _ _ => rfl) (Ev.bin Ev.int (Ev.namV S_flags_2 rfl) (Bin.shl (by exact ⟨by (first | (simp +arith only; done) | lia | omega), by (first | (simp +arith only; done) | lia | omega), by decide⟩))) S_flags_3.hk (Nat.le_of_ble_eq_true (by kernel_rfl)) (.inl rfl)) ?_; rotate_right
      exact Ex.cons (X1.if (.inr (Tr.val (Ev.bin (Ev.namV S_flags_0 rfl) (Ev.namV S_flags_3 rfl) Bin.and) fun _ _ => rfl)) (fun h => nomatch h.symm.trans e) fun _ => Ex.nil) Ex.nil
    case le => exact .same _ _ _ (.same _ _ _ (.skip _ _ _ (.skip _ _ _ (.nil _))))
  case b =>
    refine' Turn.mk (Tg.name S_flags_2.hk (Nat.le_of_ble_eq_true (by kernel_rfl)) (.inl rfl)) ?ex ?le
    case ex =>
      refine' Ex.cons (X1.assign (fun _ _ => rfl) (Ev.bin Ev.int (Ev.namV S_flags_2 rfl) (Bin.shl (by exact ⟨by (first | (simp +arith only; done) | lia | omega), by (first | (simp +arith only; done) | lia | omega), by decide⟩))) S_flags_3.hk (Nat.le_of_ble_eq_true (by kernel_rfl)) (.inl rfl)) ?_; rotate_right
      refine' Ex.cons (X1.if (.inr (Tr.val (Ev.bin (Ev.namV S_flags_0 rfl) (Ev.namV S_flags_3 rfl) Bin.and) fun _ _ => rfl)) (fun _ => ?th) fun h => nomatch h.symm.trans e) Ex.nil
      case th => exact Ex.cons (X1.write F.slot_list_append F.type_list_append (fun _ _ => rfl) (EvL.cons (Ev.cast (Ev.dictGet S_flags_5.k S_flags_5.d hv ht (fun _ _ => rfl) (EvL.cons (Ev.namV S_flags_3 rfl) (EvL.cons (Ev.callN S_flags_6 (fun _ _ => rfl) (EvL.cons (Ev.namV S_flags_3 rfl) EvL.nil fun _ => rfl) (cHex G (hs q hq).2)) EvL.nil fun _ => rfl) fun _ => rfl) fun _ => by kernel_rfl) (hs q hq).1) EvL.nil fun _ => rfl) (Wr.append (by rw [List.length_map]; (first | (simp +arith only; done) | lia | omega))) (fun _ => by kernel_rfl) S_flags_1.hk (Nat.le_of_ble_eq_true (by kernel_rfl)) S_flags_1.hd rfl rfl) (Ex.cons (X1.aug (d₁ := .int z) (d₂ := .int (flagI q)) (d₃ := .int (Builtin.bitXor z (flagI q))) (fun _ _ _ _ _ _ _ => Hop.xor (c := c) _ _ _ _ _ _ _) rfl (Ev.namV S_flags_3 rfl) Flt.int S_flags_0.hk (Nat.le_of_ble_eq_true (by kernel_rfl))) (Ex.cons (X1.if (.inr (Tr.not (Tr.val (Ev.namV S_flags_0 rfl) fun _ _ => rfl))) (fun h => absurd (e2.symm.trans ((Bool.not_not _).symm.trans (congrArg not h))) Bool.noConfusion) fun _ => Ex.nil) Ex.nil))
    case le => exact .same _ _ _ (map_app1 ▸ .same _ _ _ (.skip _ _ _ (.skip _ _ _ (.nil _))))
  case d =>
    refine' Turn.mk (Tg.name S_flags_2.hk (Nat.le_of_ble_eq_true (by kernel_rfl)) (.inl rfl)) ?ex ?le
    case ex =>
      refine' Ex.cons (X1.assign (fun _ _ => rfl) (Ev.bin Ev.int (Ev.namV S_flags_2 rfl) (Bin.shl (by exact ⟨by (first | (simp +arith only; done) | lia | omega), by (first | (simp +arith only; done) | lia | omega), by decide⟩))) S_flags_3.hk (Nat.le_of_ble_eq_true (by kernel_rfl)) (.inl rfl)) ?_; rotate_right
      refine' Ex.stop (X1.if (.inr (Tr.val (Ev.bin (Ev.namV S_flags_0 rfl) (Ev.namV S_flags_3 rfl) Bin.and) fun _ _ => rfl)) (fun _ => ?th) fun h => nomatch h.symm.trans e) Fl.noConfusion
      case th => exact Ex.cons (X1.write F.slot_list_append F.type_list_append (fun _ _ => rfl) (EvL.cons (Ev.cast (Ev.dictGet S_flags_5.k S_flags_5.d hv ht (fun _ _ => rfl) (EvL.cons (Ev.namV S_flags_3 rfl) (EvL.cons (Ev.callN S_flags_6 (fun _ _ => rfl) (EvL.cons (Ev.namV S_flags_3 rfl) EvL.nil fun _ => rfl) (cHex G (hs q hq).2)) EvL.nil fun _ => rfl) fun _ => rfl) fun _ => by kernel_rfl) (hs q hq).1) EvL.nil fun _ => rfl) (Wr.append (by rw [List.length_map]; (first | (simp +arith only; done) | lia | omega))) (fun _ => by kernel_rfl) S_flags_1.hk (Nat.le_of_ble_eq_true (by kernel_rfl)) S_flags_1.hd rfl rfl) (Ex.cons (X1.aug (d₁ := .int z) (d₂ := .int (flagI q)) (d₃ := .int (Builtin.bitXor z (flagI q))) (fun _ _ _ _ _ _ _ => Hop.xor (c := c) _ _ _ _ _ _ _) rfl (Ev.namV S_flags_3 rfl) Flt.int S_flags_0.hk (Nat.le_of_ble_eq_true (by kernel_rfl))) (Ex.stop (X1.if (.inr (Tr.not (Tr.val (Ev.namV S_flags_0 rfl) fun _ _ => rfl))) (fun _ => Ex.stop X1.brk Fl.noConfusion) fun h => absurd (e2.symm.trans ((Bool.not_not _).symm.trans (congrArg not h))) Bool.noConfusion) Fl.noConfusion))
    case le => exact .skip _ _ _ (map_app1 ▸ .same _ _ _ (.skip _ _ _ (.skip _ _ _ (.nil _))))
  case f =>
    refine' Ex.cons (X1.write F.slot_list_append F.type_list_append (fun _ _ => rfl) (EvL.cons (Ev.callN S_flags_6 (fun _ _ => rfl) (EvL.cons (Ev.namV S_flags_0 rfl) EvL.nil fun _ => rfl) (cHex G (hx z hz'))) EvL.nil fun _ => rfl) (Wr.append (by rw [List.length_map]; (first | (simp +arith only; done) | lia | omega))) (fun _ => by kernel_rfl) S_flags_1.hk (Nat.le_of_ble_eq_true (by kernel_rfl)) S_flags_1.hd rfl rfl) (Ex.le Ex.nil (LeL.le ?_))
    exact .skip _ _ _ (map_app1 ▸ .same _ _ _ (.skip _ _ _ (.skip _ _ _ (.nil _))))
  refine' Ex.stop (X1.ret (Ev.callM (fun _ _ => rfl) (fun _ => by kernel_rfl) (Ev.str) (EvL.cons (Ev.namO S_flags_1 rfl) EvL.nil fun _ => rfl) (mJoin hj))) Fl.noConfusion
end
end
noncomputable section
open PySem PySem.W PyProof.Rows PyProof.Rows.LSm PySem.Spec PyProof.V PySem.Calls
section
variable {c : Cx} {n : Nat} {T : TS} {tp : Option (List Nat)}
noncomputable def signT : {x : Str // ∃ k p1 nm p2 es p3 p4, B_signs.1 = [.Return (some (.Call (.Attribute (.Constant (.str x) k p1) nm p2) es [] p3)) p4]} := ⟨_, _, _, _, _, _, _, _, rfl⟩
noncomputable def signsL : List Str := Txt.split signT.1 " "
theorem signs_ex : Ex c n S_signs [] [] T B_signs.1 (.ret (.p (.list (signsL.map .str)))) [] T := by
  show Ex _ _ _ _ _ _ (_ :: _) _ _ _
  exact Ex.stop (X1.ret (Ev.callM (fun _ _ => rfl) (fun _ => by kernel_rfl) Ev.str (EvL.cons Ev.str EvL.nil fun _ => rfl) (mSplit (xs := signsL) rfl (by decide +kernel) (by decide +kernel) (by decide +kernel)))) Fl.noConfusion
theorem term_ex (G : Gl c) {z : Int} : Ex c n S_term [] [some (.v (.p (.int z)))] T B_term.1 (.ret (.p (.bool (decide (z < 256))))) [] T := by
  obtain ⟨t, hv⟩ := G.t.nt
  show Ex _ _ _ _ _ _ (_ :: _) _ _ _
  exact Ex.stop (X1.ret (Ev.cmp (Ev.namV S_term_0 rfl) (Ev.globInt S_term_1.k S_term_1.d hv) Cmp.lt rfl)) Fl.noConfusion
theorem eof_ex (G : Gl c) {z : Int} : Ex c n S_eof [] [some (.v (.p (.int z)))] T B_eof.1 (.ret (.p (.bool (z == 0)))) [] T := by
  obtain ⟨t, hv⟩ := G.t.em
  show Ex _ _ _ _ _ _ (_ :: _) _ _ _
  exact Ex.stop (X1.ret (Ev.cmp (Ev.namV S_eof_0 rfl) (Ev.globInt S_eof_1.k S_eof_1.d hv) Cmp.eqI rfl)) Fl.noConfusion
noncomputable def numS (m : Nat) (l : List Int) (p : Int × Nat) : List Int := l.set ((p.2 : Int).fmod m).toNat (l[((p.2 : Int).fmod m).toNat]! + p.1.fmod (10 ^ (6 : Int).toNat))
theorem zipIdx_int {ns : List Int} : (ns.map PyData.int).zipIdx.map (fun p => PyData.tuple [.int p.2, p.1]) = ns.zipIdx.map fun p => .tuple [.int p.2, .int p.1] := by
  rw [List.zipIdx_map, List.map_map]
  rfl
theorem fmod_lt {q : Nat} {m : Nat} (h : 0 < m) : 0 ≤ (q : Int).fmod m ∧ ((q : Int).fmod m).toNat < m := by
  have h0 : (0 : Int) < m := by (first | (simp +arith only; done) | lia | omega)
  rw [Int.fmod_eq_emod_of_nonneg _ (by (first | (simp +arith only; done) | lia | omega))]
  have := Int.emod_nonneg (q : Int) (show (m : Int) ≠ 0 by (first | (simp +arith only; done) | lia | omega))
  have := Int.emod_lt_of_pos (q : Int) h0
  (first | (simp +arith only; done) | lia | omega)
theorem numbers_ex (G : Gl c) {ns : List Int} (hl : ns.length ≤ 63) : Ex c n S_numbers [] [some (.v (.p (.list (ns.map .int)))), none, none, none] T B_numbers.1 (.ret (.p (.list ((ns.zipIdx.foldl (numS 6) [146, 6, 81, 208, 43, 1845]).map .int)))) [] T := by
  show Ex _ _ _ _ _ _ (_ :: _) _ _ _
  refine' Ex.cons (X1.own (l := List.map .int [146, 6, 81, 208, 43, 1845]) (fun _ _ => rfl) (.inl (EvO.list (EvP.cons Ev.int (EvP.cons Ev.int (EvP.cons Ev.int (EvP.cons Ev.int (EvP.cons Ev.int (EvP.cons Ev.int EvP.nil fun _ => rfl) fun _ => rfl) fun _ => rfl) fun _ => rfl) fun _ => rfl) fun _ => rfl) (by simp))) (fun d m => by obtain ⟨_, _, rfl⟩ := List.mem_map.mp m; exact Flt.int) S_numbers_1.hk (Nat.le_of_ble_eq_true (by kernel_rfl)) (.inl rfl)) ?_
  refine' Ex.cons (X1.for (fun _ _ => rfl) (EvI.cast (EvI.enum (GlAt.gn S_numbers_4 (fx_enum G)) (fun _ _ => rfl) (EvL.cons (Ev.upto (Ev.namV S_numbers_0 rfl) Ev.int ⟨by rw [List.length_map]; (first | (simp +arith only; done) | lia | omega), by rw [List.length_map]; (first | (simp +arith only; done) | lia | omega)⟩) EvL.nil fun _ => rfl)) zipIdx_int)
    (Run.fold (fun l : List Int => [some (.v (.p (.list (ns.map .int)))), some (.own (l.map .int)), none, none]) (numS 6) (s := [146, 6, 81, 208, 43, 1845]) (fun l => l.length = 6) rfl (fun l p _ h => by unfold numS; rw [List.length_set]; exact h) (fun l p _ h => ?r) fun _ => Ex.nil)) ?_
  case r =>
    have hb := fmod_lt (q := p.2) (m := 6) (by decide)
    refine' Turn.mk (Tg.pair S_numbers_2.hk (Nat.le_of_ble_eq_true (by kernel_rfl)) (.inl rfl) S_numbers_3.hk (Nat.le_of_ble_eq_true (by kernel_rfl)) (.inl rfl) fun _ => rfl) (Ex.cons (X1.augItem (z := (p.2 : Int).fmod 6) (d₁ := .int l[((p.2 : Int).fmod 6).toNat]!) (d₂ := .int (p.1.fmod (10 ^ (6 : Int).toNat))) (d₃ := .int (l[((p.2 : Int).fmod 6).toNat]! + p.1.fmod (10 ^ (6 : Int).toNat)))
      (Ev.bin (Ev.namV S_numbers_2 rfl) Ev.int (Bin.mod (by decide))) (Ev.bin (Ev.namV S_numbers_3 rfl) (Ev.bin Ev.int Ev.int (Bin.pow (by decide))) (Bin.mod (by decide))) (fun _ _ _ _ _ _ _ => Hop.add (c := c) _ _ _ _ _ _ _) ⟨hb.1, ?i, by rw [List.length_map, h]; decide⟩ S_numbers_1.hk (Nat.le_of_ble_eq_true (by kernel_rfl)) S_numbers_1.hd rfl rfl fun _ _ _ => rfl) Ex.nil) ?le
    case i => rw [List.getElem?_map, List.getElem?_eq_getElem (h.symm ▸ hb.2), getElem!_pos l _ (h.symm ▸ hb.2)]; rfl
    case le =>
      refine .same _ _ _ ?_
      unfold numS
      rw [List.map_set]
      exact .same _ _ _ (.skip _ _ _ (.skip _ _ _ (.nil _)))
  refine' Ex.stop (X1.ret (Ev.namO S_numbers_1 rfl)) Fl.noConfusion
end
end
noncomputable section
open PySem PySem.W PyProof.Rows PyProof.Rows.LSm PySem.Spec PyProof.V PySem.Calls
section
variable {c : Cx} {n : Nat} {T : TS} {tp : Option (List Nat)} {t : PySem.Expr} {body : List Stmt}
structure WS where
  cnt : List Int
  b : Int
  n : Int
  nt : Int
noncomputable def WS.grown (s : WS) : List Int := bif decide ((s.cnt.length : Int) ≤ s.b) then s.cnt ++ (List.replicate (s.b - s.cnt.length + 1).toNat [(0 : Int)]).flatten else s.cnt
noncomputable def WS.tab (s : WS) : WS := ⟨s.grown.set s.b.toNat (s.grown[s.b.toNat]! + 1), 0, s.n + 1, s.nt + 1⟩
noncomputable def wsGo : List Nat → WS → WS
  | [], s => s
  | q :: r, s => bif (⟨#[q]⟩ : Str) == " " then wsGo r ⟨s.cnt, s.b + 1, s.n + 1, s.nt⟩ else bif (⟨#[q]⟩ : Str) == "\t" then wsGo r s.tab else s
noncomputable def wsOf (x : Str) : WS := wsGo x.cps.toList ⟨[], 0, 0, 0⟩
noncomputable def WS.norm (s : WS) : PyData := .tuple [.tuple (s.cnt.map .int), .int s.b]
noncomputable def wsF (x : Str) : Flds := [("is_simple", .bool (decide ((wsOf x).cnt.length ≤ (1 : Int)))), ("norm", (wsOf x).norm), ("nt", .int (wsOf x).nt), ("n", .int (wsOf x).n), ("raw", .str x)]
noncomputable abbrev wsΓ (x : Str) (s : WS) : Gam := [some (.v .self), some (.v (.p (.str x))), some (.v (.p (.str " "))), some (.v (.p (.str "\t"))), some (.own (s.cnt.map .int)), some (.v (.p (.int s.b))), some (.v (.p (.int s.n))), some (.v (.p (.int s.nt))), none]
noncomputable def WS.ok (s : WS) (m : Nat) : Prop := 0 ≤ s.b ∧ s.b + m ≤ 100 ∧ s.cnt.length ≤ 101
theorem flat_rep {k : Nat} : (List.replicate k [(0 : Int)]).flatten.length = k := by
  induction k with
  | zero => rfl
  | succ k ih => rw [List.replicate_succ, List.flatten_cons, List.length_append, ih, List.length_singleton]; (first | (simp +arith only; done) | lia | omega)
theorem WS.grown_len {s : WS} {m : Nat} (h : s.ok m) : s.b.toNat < s.grown.length ∧ s.grown.length ≤ 101 := by
  unfold WS.grown
  obtain ⟨h1, h2, h3⟩ := h
  cases e : decide ((s.cnt.length : Int) ≤ s.b) with
  | true => have := of_decide_eq_true e; rw [cond_true, List.length_append, flat_rep]; omega
  | false => have := of_decide_eq_false e; rw [cond_false]; omega
theorem wsRun {T : TS} {x : Str} (h1 : ∀ s q m, s.ok (m + 1) → (⟨#[q]⟩ == (" " : Str)) = true → Turn c n S_init [] t body (wsΓ x s) T (.str ⟨#[q]⟩) .next (wsΓ x ⟨s.cnt, s.b + 1, s.n + 1, s.nt⟩) T)
    (h2 : ∀ s q m, s.ok (m + 1) → (⟨#[q]⟩ == (" " : Str)) = false → (⟨#[q]⟩ == ("\t" : Str)) = true → Turn c n S_init [] t body (wsΓ x s) T (.str ⟨#[q]⟩) .next (wsΓ x s.tab) T)
    (h3 : ∀ s q, (⟨#[q]⟩ == (" " : Str)) = false → (⟨#[q]⟩ == ("\t" : Str)) = false → Turn c n S_init [] t body (wsΓ x s) T (.str ⟨#[q]⟩) .brk (wsΓ x s) T) :
    ∀ (r : List Nat) (s : WS), s.ok r.length → Run c n S_init [] t body [] (wsΓ x (wsGo r s)) T (wsΓ x s) T (r.map fun q => .str ⟨#[q]⟩) .next := fun r => by
  induction r with
  | nil => intro s _; exact .done _ _ _ Ex.nil
  | cons q r ih =>
    intro s hs
    rw [List.length_cons] at hs
    unfold wsGo
    cases e : (⟨#[q]⟩ : Str) == " " with
    | true => exact .next _ _ _ _ _ _ _ (h1 s q _ hs e) (ih _ ⟨by have := hs.1; show 0 ≤ s.b + 1; (first | (simp +arith only; done) | lia | omega), by have := hs.2.1; show s.b + 1 + _ ≤ 100; (first | (simp +arith only; done) | lia | omega), hs.2.2⟩)
    | false =>
      cases e2 : (⟨#[q]⟩ : Str) == "\t" with
      | true => exact .next _ _ _ _ _ _ _ (h2 s q _ hs e e2) (ih _ ⟨Int.le_refl _, by have := hs.1; have := hs.2.1; show 0 + _ ≤ (100 : Int); (first | (simp +arith only; done) | lia | omega), by show (s.grown.set _ _).length ≤ 101; rw [List.length_set]; exact (WS.grown_len hs).2⟩)
      | false => exact .brk _ _ _ _ (h3 s q e e2)
theorem wsGo_len : ∀ (r : List Nat) (s : WS), s.ok r.length → (wsGo r s).cnt.length ≤ 101 := fun r => by
  induction r with
  | nil => intro s h; exact h.2.2
  | cons q r ih =>
    intro s hs
    rw [List.length_cons] at hs
    unfold wsGo
    cases (⟨#[q]⟩ : Str) == " " with
    | true => exact ih _ ⟨by have := hs.1; show 0 ≤ s.b + 1; (first | (simp +arith only; done) | lia | omega), by have := hs.2.1; show s.b + 1 + _ ≤ 100; (first | (simp +arith only; done) | lia | omega), hs.2.2⟩
    | false =>
      cases (⟨#[q]⟩ : Str) == "\t" with
      | true => exact ih _ ⟨Int.le_refl _, by have := hs.1; have := hs.2.1; show 0 + _ ≤ (100 : Int); (first | (simp +arith only; done) | lia | omega), by show (s.grown.set _ _).length ≤ 101; rw [List.length_set]; exact (WS.grown_len hs).2⟩
      | false => exact hs.2.2
theorem init_ex (G : Gl c) {x : Str} (hx : x.cps.toList.length ≤ 100) : Ex c n S_init [] [some (.v .self), some (.v (.p (.str x))), none, none, none, none, none, none, none] ⟨none, some []⟩ B_init.1 .next [] ⟨none, some (wsF x)⟩ := by
  obtain ⟨mc, tk, hr, hf⟩ := G.k.cS
  obtain ⟨mc', tk', hr', hf'⟩ := G.k.cT
  show Ex _ _ _ _ _ _ (_ :: _) _ _ _
  refine' Ex.cons (X1.selfSet (Ev.namV S_init_1 rfl) Flt.str rfl S_init_0.hk rfl S_init_0.hd (G.ok.na _ (by simp)) (Nat.le_of_ble_eq_true (by kernel_rfl)) (fun _ => rfl)) ?_
  refine' Ex.cons (X1.swapped (fun env es => ?sw) (Ev.tup (EvP.cons (Ev.clsStr S_init_9.k S_init_9.d G.k.cls hr hf fun _ => by kernel_rfl) (EvP.cons (Ev.clsStr S_init_9.k S_init_9.d G.k.cls hr' hf' fun _ => by kernel_rfl) EvP.nil fun _ => rfl) fun _ => rfl) (by decide)) S_init_2.hk S_init_3.hk ⟨Nat.le_of_ble_eq_true (by kernel_rfl), Nat.le_of_ble_eq_true (by kernel_rfl)⟩) ?_
  case sw =>
    obtain ⟨⟨kd, nms, ig, ic, more⟩, _, _, _, _, _, _, _, _⟩ := env
    have h1 : nms = S_init := es.hsc
    have h2 : kd = .function := es.fk
    cases h1
    cases h2
    exact ⟨rfl, by kernel_rfl⟩
  refine' Ex.cons (X1.own (l := List.map .int []) (fun _ _ => rfl) (.inl (EvO.list EvP.nil (by simp))) (fun d m => nomatch m) S_init_4.hk (Nat.le_of_ble_eq_true (by kernel_rfl)) (.inl rfl)) ?_
  refine' Ex.cons (X1.three Ev.int Flt.int S_init_5.hk S_init_6.hk S_init_7.hk ⟨Nat.le_of_ble_eq_true (by kernel_rfl), Nat.le_of_ble_eq_true (by kernel_rfl), Nat.le_of_ble_eq_true (by kernel_rfl)⟩ (fun _ => rfl) fun _ => by kernel_rfl) ?_
  refine' Ex.cons (X1.for (fun _ _ => rfl) (EvI.str (Ev.selfField (Ev.namV S_init_0 rfl) (G.ok.na _ (by simp)) rfl rfl fun _ => by kernel_rfl) fun _ _ => rfl) (wsRun (x := x) (fun s q m hs e => ?a) (fun s q m hs e e2 => ?b) (fun s q e e2 => ?d) x.cps.toList ⟨[], 0, 0, 0⟩ ⟨Int.le_refl _, by show (0 : Int) + _ ≤ 100; (first | (simp +arith only; done) | lia | omega), by decide⟩)) ?_
  case a =>
    refine' Turn.mk (Tg.name S_init_8.hk (Nat.le_of_ble_eq_true (by kernel_rfl)) (.inl rfl)) (Ex.cons (X1.if (.inr (Tr.cmp (Ev.namV S_init_8 rfl) (Ev.namV S_init_2 rfl) Cmp.eqS rfl)) (fun _ => ?ex) fun h => nomatch e.symm.trans h) Ex.nil) ?le
    case ex =>
      refine' Ex.cons (X1.assign (fun _ _ => rfl) (Ev.bin (Ev.namV S_init_6 rfl) Ev.int Bin.add) S_init_6.hk (Nat.le_of_ble_eq_true (by kernel_rfl)) (.inl rfl)) ?_; rotate_right
      refine' Ex.cons (X1.assign (fun _ _ => rfl) (Ev.bin (Ev.namV S_init_5 rfl) Ev.int Bin.add) S_init_5.hk (Nat.le_of_ble_eq_true (by kernel_rfl)) (.inl rfl)) ?_; rotate_right
      exact Ex.nil
    case le => exact .same _ _ _ (.same _ _ _ (.same _ _ _ (.same _ _ _ (.same _ _ _ (.same _ _ _ (.same _ _ _ (.same _ _ _ (.skip _ _ _ (.nil _)))))))))
  case b =>
    have hg := WS.grown_len hs
    have hc : (s.cnt.map PyData.int).length ≤ 1000000 := by
      have := hs.2.2
      rw [List.length_map]; (first | (simp +arith only; done) | lia | omega)
    refine' Turn.mk (Tg.name S_init_8.hk (Nat.le_of_ble_eq_true (by kernel_rfl)) (.inl rfl)) (Ex.cons (X1.if (.inr (Tr.cmp (Ev.namV S_init_8 rfl) (Ev.namV S_init_2 rfl) Cmp.eqS rfl)) (fun h => nomatch e.symm.trans h) fun _ => Ex.cons (X1.if (.inr (Tr.cmp (Ev.namV S_init_8 rfl) (Ev.namV S_init_3 rfl) Cmp.eqS rfl)) (fun _ => ?ex) fun h => nomatch e2.symm.trans h) Ex.nil) Ex.nil) ?le
    case ex =>
      refine' Ex.cons (X1.assign (fun _ _ => rfl) (Ev.bin (Ev.namV S_init_6 rfl) Ev.int Bin.add) S_init_6.hk (Nat.le_of_ble_eq_true (by kernel_rfl)) (.inl rfl)) ?_; rotate_right
      refine' Ex.cons (X1.assign (fun _ _ => rfl) (Ev.bin (Ev.namV S_init_7 rfl) Ev.int Bin.add) S_init_7.hk (Nat.le_of_ble_eq_true (by kernel_rfl)) (.inl rfl)) ?_; rotate_right
      refine' Ex.cons (X1.if (Γ' := [some (.v .self), some (.v (.p (.str x))), some (.v (.p (.str " "))), some (.v (.p (.str "\t"))), some (.own (s.grown.map .int)), some (.v (.p (.int s.b))), some (.v (.p (.int (s.n + 1)))), some (.v (.p (.int (s.nt + 1)))), none]) (.inl (Tr.cmp (Ev.namV S_init_5 rfl) (Ev.callN S_init_10 (fun _ _ => rfl) (EvL.cons (Ev.namO S_init_4 rfl) EvL.nil fun _ => rfl) (cLenL G hc)) Cmp.ge rfl)) (fun h => ?gt) fun h => ?gf) ?_
      case gt =>
        have hb := of_decide_eq_true h
        have h1 := hs.1
        have h2 := hs.2.1
        rw [List.length_map] at hb
        have hk : ([PyData.int 0]).length ≤ 1000 ∧ 0 ≤ s.b - (s.cnt.map PyData.int).length + 1 ∧ s.b - (s.cnt.map PyData.int).length + 1 ≤ 1000 := by rw [List.length_map]; exact ⟨by decide, by (first | (simp +arith only; done) | lia | omega), by (first | (simp +arith only; done) | lia | omega)⟩
        have hl : (s.cnt.map PyData.int).length + (List.replicate (s.b - (s.cnt.map PyData.int).length + 1).toNat [PyData.int 0]).flatten.length ≤ 1000000 := by
          have := hs.2.2
          rw [List.length_map, List.length_flatten, List.map_replicate, List.sum_replicate_nat]
          simp
          (first | (simp +arith only; done) | lia | omega)
        have hG : s.cnt.map PyData.int ++ (List.replicate (s.b - (s.cnt.map PyData.int).length + 1).toNat [PyData.int 0]).flatten = s.grown.map .int := by
          unfold WS.grown
          rw [decide_eq_true hb, cond_true, List.map_append, List.map_flatten, List.map_replicate, List.length_map]
          rfl
        exact Ex.cons (X1.own (l := s.grown.map .int) (fun _ _ => rfl) (.inr (hG ▸ EvO.bin (Ev.namO S_init_4 rfl) (EvO.bin (Ev.list (EvP.cons Ev.int EvP.nil fun _ => rfl) (Nat.le_of_ble_eq_true (by kernel_rfl))) (Ev.bin (Ev.bin (Ev.namV S_init_5 rfl) (Ev.callN S_init_10 (fun _ _ => rfl) (EvL.cons (Ev.namO S_init_4 rfl) EvL.nil fun _ => rfl) (cLenL G hc)) Bin.sub) Ev.int Bin.add) (mulL hk)).ev (addL hl))) (fun d m => by obtain ⟨_, _, rfl⟩ := List.mem_map.mp m; exact Flt.int) S_init_4.hk (Nat.le_of_ble_eq_true (by kernel_rfl)) (.inl rfl)) (Ex.le Ex.nil (LeL.le (.same _ _ _ (.same _ _ _ (.same _ _ _ (.same _ _ _ (.same _ _ _ (.same _ _ _ (.same _ _ _ (.same _ _ _ (.skip _ _ _ (.nil _))))))))))))
      case gf =>
        have hb := of_decide_eq_false h
        rw [List.length_map] at hb
        have hG : s.grown = s.cnt := by
          unfold WS.grown
          rw [decide_eq_false hb, cond_false]
        rw [hG]
        exact Ex.le Ex.nil (LeL.le (.same _ _ _ (.same _ _ _ (.same _ _ _ (.same _ _ _ (.same _ _ _ (.same _ _ _ (.same _ _ _ (.same _ _ _ (.skip _ _ _ (.nil _)))))))))))
      rotate_right
      have hz : 0 ≤ s.b ∧ s.b.toNat < s.grown.length ∧ s.grown.length ≤ 1000000 := ⟨hs.1, hg.1, by have := hg.2; (first | (simp +arith only; done) | lia | omega)⟩
      refine' Ex.cons (X1.setItem (l := s.grown.map .int) (z := s.b) (d := .int (s.grown[s.b.toNat]! + 1)) (Ev.bin (Ev.item (fun _ _ => rfl) (Ev.namO S_init_4 rfl) (Ev.namV S_init_5 rfl) (Sub.listD (by exact hz))) Ev.int Bin.add) Flt.int (Ev.namV S_init_5 rfl) ⟨hs.1, by rw [List.length_map]; exact hg.1, by rw [List.length_map]; exact hz.2.2⟩ S_init_4.hk (Nat.le_of_ble_eq_true (by kernel_rfl)) S_init_4.hd rfl rfl fun _ => rfl) ?_; rotate_right
      refine' Ex.cons (X1.assign (fun _ _ => rfl) Ev.int S_init_5.hk (Nat.le_of_ble_eq_true (by kernel_rfl)) (.inl rfl)) ?_; rotate_right
      exact Ex.nil
    case le =>
      refine .same _ _ _ (.same _ _ _ (.same _ _ _ (.same _ _ _ ?_)))
      show LeL (some (.own (List.map PyData.int (s.grown.set _ _))) :: _) _
      rw [List.map_set]
      exact .same _ _ _ (.same _ _ _ (.same _ _ _ (.same _ _ _ (.skip _ _ _ (.nil _)))))
  case d =>
    refine' Turn.mk (Tg.name S_init_8.hk (Nat.le_of_ble_eq_true (by kernel_rfl)) (.inl rfl)) (Ex.stop (X1.if (.inr (Tr.cmp (Ev.namV S_init_8 rfl) (Ev.namV S_init_2 rfl) Cmp.eqS rfl)) (fun h => nomatch e.symm.trans h) fun _ => Ex.stop (X1.if (.inr (Tr.cmp (Ev.namV S_init_8 rfl) (Ev.namV S_init_3 rfl) Cmp.eqS rfl)) (fun h => nomatch e2.symm.trans h) fun _ => Ex.stop X1.brk Fl.noConfusion) Fl.noConfusion) Fl.noConfusion) ?le
    case le => exact .same _ _ _ (.same _ _ _ (.same _ _ _ (.same _ _ _ (.same _ _ _ (.same _ _ _ (.same _ _ _ (.same _ _ _ (.skip _ _ _ (.nil _)))))))))
  have hw : (wsGo x.cps.toList ⟨[], 0, 0, 0⟩).cnt.length ≤ 101 := wsGo_len _ _ ⟨Int.le_refl _, by show (0 : Int) + _ ≤ 100; (first | (simp +arith only; done) | lia | omega), by decide⟩
  have hc : ((wsGo x.cps.toList ⟨[], 0, 0, 0⟩).cnt.map PyData.int).length ≤ 1000000 := by rw [List.length_map]; (first | (simp +arith only; done) | lia | omega)
  refine' Ex.cons (X1.selfSet (Ev.namV S_init_6 rfl) Flt.int rfl S_init_0.hk rfl S_init_0.hd (G.ok.na _ (by simp)) (Nat.le_of_ble_eq_true (by kernel_rfl)) (fun _ => rfl)) ?_
  refine' Ex.cons (X1.selfSet (Ev.namV S_init_7 rfl) Flt.int rfl S_init_0.hk rfl S_init_0.hd (G.ok.na _ (by simp)) (Nat.le_of_ble_eq_true (by kernel_rfl)) (fun _ => rfl)) ?_
  refine' Ex.cons (X1.selfSet (Ev.tup (EvP.cons (Ev.callN S_init_11 (fun _ _ => rfl) (EvL.cons (Ev.namO S_init_4 rfl) EvL.nil fun _ => rfl) (cTuple G hc)) (EvP.cons (Ev.namV S_init_5 rfl) EvP.nil fun _ => rfl) fun _ => rfl) (Nat.le_of_ble_eq_true (by kernel_rfl))) (Flt.tuple fun d m => (List.mem_cons.mp m).elim (fun e => e ▸ Flt.tuple fun d m => (by obtain ⟨_, _, rfl⟩ := List.mem_map.mp m; exact Flt.int)) fun m => List.mem_singleton.mp m ▸ Flt.int) rfl S_init_0.hk rfl S_init_0.hd (G.ok.na _ (by simp)) (Nat.le_of_ble_eq_true (by kernel_rfl)) (fun _ => rfl)) ?_
  have hs : wsF x = ((("is_simple" : Str), PyData.bool (decide ((((wsGo x.cps.toList ⟨[], 0, 0, 0⟩).cnt.map PyData.int).length : Int) ≤ 1))) :: [(("norm" : Str), (wsOf x).norm), (("nt" : Str), PyData.int (wsOf x).nt), (("n" : Str), PyData.int (wsOf x).n), (("raw" : Str), PyData.str x)] : Flds) := by rw [List.length_map]; rfl
  rw [hs]
  refine' Ex.cons (X1.selfSet (Ev.cmp (Ev.callN S_init_10 (fun _ _ => rfl) (EvL.cons (Ev.namO S_init_4 rfl) EvL.nil fun _ => rfl) (cLenL G hc)) Ev.int Cmp.le rfl) Flt.bool rfl S_init_0.hk rfl S_init_0.hd (G.ok.na _ (by simp)) (Nat.le_of_ble_eq_true (by kernel_rfl)) (fun _ => rfl)) (Ex.le Ex.nil (LeL.le (.nil _)))
end
end
noncomputable section
open PySem PySem.W PyProof.Rows PyProof.Rows.LSm PySem.Spec PyProof.V PySem.Calls
section
variable {c : Cx} {n : Nat} {T : TS} {tp : Option (List Nat)} {t : PySem.Expr} {body : List Stmt}
noncomputable def lrF (w : WS) : Int := if w.b > (w.cnt.length : Int) - 1 then w.b else (w.cnt.length : Int) - 1
noncomputable def indS (ts : Int) (w : WS) (il : Int) (q : Nat) : Int := il + (ts + q).fdiv ts * w.cnt[(ts + (q : Int)).toNat]!
noncomputable def indF (ts : Int) (w : WS) : Int := w.b + ts * ((List.range ((w.cnt.length : Int) - ts).toNat).foldl (indS ts w) 0 + w.nt)
theorem longest_ex (G : Gl c) {x : Str} (hl : (wsOf x).cnt.length ≤ 101) : Ex c n S_longest [] [some (.v (.ws (wsF x))), none, none] T B_longest.1 (.ret (.p (.int (lrF (wsOf x))))) [] T := by
  have hc : ((wsOf x).cnt.map PyData.int).length ≤ 1000000 := by rw [List.length_map]; (first | (simp +arith only; done) | lia | omega)
  show Ex _ _ _ _ _ _ (_ :: _) _ _ _
  refine' Ex.cons (X1.unpack (fun _ => ⟨rfl, rfl⟩) (Ev.field (pd := (wsOf x).norm) (Ev.namV S_longest_0 rfl) (G.ok.na _ (by simp)) (by kernel_rfl) fun _ => by kernel_rfl) (Tg.pair S_longest_1.hk (Nat.le_of_ble_eq_true (by kernel_rfl)) (.inl rfl) S_longest_2.hk (Nat.le_of_ble_eq_true (by kernel_rfl)) (.inl rfl) fun _ => rfl)) ?_
  have e : lrF (wsOf x) = if (wsOf x).b > (((wsOf x).cnt.map PyData.int).length : Int) - 1 then (wsOf x).b else (((wsOf x).cnt.map PyData.int).length : Int) - 1 := by rw [List.length_map]; rfl
  rw [e]
  refine' Ex.stop (X1.ret (Ev.callN S_longest_3 (fun _ _ => rfl) (EvL.cons (Ev.bin (Ev.callN S_longest_4 (fun _ _ => rfl) (EvL.cons (Ev.namV S_longest_1 rfl) EvL.nil fun _ => rfl) (cLenT G hc)) Ev.int Bin.sub) (EvL.cons (Ev.namV S_longest_2 rfl) EvL.nil fun _ => rfl) fun _ => rfl) (cMax G Call.max2))) Fl.noConfusion
theorem fdiv_small {a b : Int} (h : 0 ≤ a ∧ a ≤ 1000000) (hb : 1 ≤ b) : (a.fdiv b).natAbs < 2 ^ 64 := by
  rw [Int.fdiv_eq_ediv_of_nonneg _ (by (first | (simp +arith only; done) | lia | omega))]
  have h1 := Int.ediv_nonneg h.1 (show 0 ≤ b by (first | (simp +arith only; done) | lia | omega))
  have h2 := Int.ediv_le_self b h.1
  (first | (simp +arith only; done) | lia | omega)
theorem indent_ex (G : Gl c) {x : Str} {ts : Int} (h1 : 1 ≤ ts ∧ ts ≤ 1000) (hl : (wsOf x).cnt.length ≤ 101) : Ex c n S_indent [] [some (.v (.ws (wsF x))), some (.v (.p (.int ts))), none, none, none, none] T B_indent.1 (.ret (.p (.int (indF ts (wsOf x))))) [] T := by
  have hc : ((wsOf x).cnt.map PyData.int).length ≤ 1000000 := by rw [List.length_map]; (first | (simp +arith only; done) | lia | omega)
  show Ex _ _ _ _ _ _ (_ :: _) _ _ _
  refine' Ex.cons (X1.unpack (fun _ => ⟨rfl, rfl⟩) (Ev.field (pd := (wsOf x).norm) (Ev.namV S_indent_0 rfl) (G.ok.na _ (by simp)) (by kernel_rfl) fun _ => by kernel_rfl) (Tg.pair S_indent_2.hk (Nat.le_of_ble_eq_true (by kernel_rfl)) (.inl rfl) S_indent_3.hk (Nat.le_of_ble_eq_true (by kernel_rfl)) (.inl rfl) fun _ => rfl)) ?_
  refine' Ex.cons (X1.assign (fun _ _ => rfl) Ev.int S_indent_4.hk (Nat.le_of_ble_eq_true (by kernel_rfl)) (.inl rfl)) ?_; rotate_right
  refine' Ex.cons (X1.for (fun _ _ => rfl) (rng2 S_indent_6 G (fun _ _ => rfl) (EvL.cons (Ev.namV S_indent_1 rfl) (EvL.cons (Ev.callN S_indent_7 (fun _ _ => rfl) (EvL.cons (Ev.namV S_indent_2 rfl) EvL.nil fun _ => rfl) (cLenT G hc)) EvL.nil fun _ => rfl) fun _ => rfl) ⟨by (first | (simp +arith only; done) | lia | omega), by (first | (simp +arith only; done) | lia | omega), by (first | (simp +arith only; done) | lia | omega), by (first | (simp +arith only; done) | lia | omega)⟩ fun _ _ => rfl)
    (Run.fold (fun il : Int => [some (.v (.ws (wsF x))), some (.v (.p (.int ts))), some (.v (.p (.tuple ((wsOf x).cnt.map .int)))), some (.v (.p (.int (wsOf x).b))), some (.v (.p (.int il))), none]) (indS ts (wsOf x)) (s := 0) (fun _ => True) trivial (fun _ _ _ _ => trivial) (fun il q hq _ => ?r) fun _ => Ex.nil)) ?_
  case r =>
    have hq := List.mem_range.mp hq
    rw [List.length_map] at hq
    have hk : 0 ≤ ts + (q : Int) ∧ (ts + (q : Int)).toNat < (wsOf x).cnt.length ∧ (wsOf x).cnt.length ≤ 1000000 := ⟨by (first | (simp +arith only; done) | lia | omega), by (first | (simp +arith only; done) | lia | omega), by (first | (simp +arith only; done) | lia | omega)⟩
    have hm : ((ts + (q : Int)).fdiv ts).natAbs < 2 ^ 64 := fdiv_small ⟨by (first | (simp +arith only; done) | lia | omega), by (first | (simp +arith only; done) | lia | omega)⟩ h1.1
    have hd : ts ≠ 0 ∧ ts.natAbs < 1073741824 := ⟨by (first | (simp +arith only; done) | lia | omega), by (first | (simp +arith only; done) | lia | omega)⟩
    refine' Turn.mk (Tg.name S_indent_5.hk (Nat.le_of_ble_eq_true (by kernel_rfl)) (.inl rfl)) ?ex ?le
    case ex => refine' Ex.cons (X1.assign (fun _ _ => rfl) (Ev.bin (Ev.namV S_indent_4 rfl) (Ev.bin (Ev.bin (Ev.namV S_indent_5 rfl) (Ev.namV S_indent_1 rfl) (Bin.fdiv (by first | exact hk | exact hm | exact hd))) (Ev.item (fun _ _ => rfl) (Ev.namV S_indent_2 rfl) (Ev.namV S_indent_5 rfl) (Sub.tupD (by first | exact hk | exact hm | exact hd))) (Bin.mul (by first | exact hk | exact hm | exact hd))) Bin.add) S_indent_4.hk (Nat.le_of_ble_eq_true (by kernel_rfl)) (.inl rfl)) ?_; rotate_right; exact Ex.nil
    case le => exact .same _ _ _ (.same _ _ _ (.same _ _ _ (.same _ _ _ (.same _ _ _ (.skip _ _ _ (.nil _))))))
  have e : indF ts (wsOf x) = (wsOf x).b + ts * ((List.range ((((wsOf x).cnt.map PyData.int).length : Int) - ts).toNat).foldl (indS ts (wsOf x)) 0 + (wsOf x).nt) := by rw [List.length_map]; rfl
  rw [e]
  have hm : ts.natAbs < 2 ^ 64 := by (first | (simp +arith only; done) | lia | omega)
  refine' Ex.stop (X1.ret (Ev.bin (Ev.namV S_indent_3 rfl) (Ev.bin (Ev.namV S_indent_1 rfl) (Ev.bin (Ev.namV S_indent_4 rfl) (Ev.field (pd := .int (wsOf x).nt) (Ev.namV S_indent_0 rfl) (G.ok.na _ (by simp)) (by kernel_rfl) fun _ => by kernel_rfl) Bin.add) (Bin.mul (by exact hm))) Bin.add)) Fl.noConfusion
end
end
noncomputable section
open PySem PySem.W PyProof.Rows PyProof.Rows.LSm PySem.Spec PyProof.V PySem.Calls
section
variable {c : Cx} {n : Nat} {T : TS} {tp : Option (List Nat)} {t : PySem.Expr} {body : List Stmt}
theorem octets_c (G : Gl c) {z : Int} (h0 : 0 ≤ z) (hz : z < 2 ^ 40) : CallN c (n + 1) "_law_octets" [.p (.int z)] ⟨tp, none⟩ (.p (.list ((octF z).map .int))) ⟨tp, none⟩ := (octets_ex h0 hz).fn (k := 1) G.f.f_octets (by kernel_rfl) rfl rfl (.inl rfl) tt
theorem varint_c (G : Gl c) {b : Nat} {bs r : List Nat} {v : Int} (h : vF bs b (Builtin.bitAnd b 63) = some (v, r)) : CallN c (n + 1) "_parse_varint" [.tape] ⟨some (b :: bs), none⟩ (.p (.int v)) ⟨some r, none⟩ := (varint_ex G h).fn (k := 2) G.f.f_varint (by kernel_rfl) rfl rfl (.inl rfl) ⟨⟨fun h => (nomatch h), fun h => (nomatch h)⟩, rfl, rfl⟩
theorem signs_c (G : Gl c) : CallN c (n + 1) "_law_signs" [] ⟨tp, none⟩ (.p (.list (signsL.map .str))) ⟨tp, none⟩ := signs_ex.fn (k := 0) G.f.f_signs (by kernel_rfl) rfl rfl (.inl rfl) tt
theorem term_c (G : Gl c) {z : Int} : CallN c (n + 1) "ISTERMINAL" [.p (.int z)] ⟨tp, none⟩ (.p (.bool (decide (z < 256)))) ⟨tp, none⟩ := (term_ex G).fn (k := 0) G.f.f_term (by kernel_rfl) rfl rfl (.inl rfl) tt
theorem eof_c (G : Gl c) {z : Int} : CallN c (n + 1) "ISEOF" [.p (.int z)] ⟨tp, none⟩ (.p (.bool (z == 0))) ⟨tp, none⟩ := (eof_ex G).fn (k := 0) G.f.f_eof (by kernel_rfl) rfl rfl (.inl rfl) tt
theorem numbers_c (G : Gl c) {ns : List Int} (hl : ns.length ≤ 63) : CallN c (n + 1) "_law_numbers" [.p (.list (ns.map .int))] ⟨tp, none⟩ (.p (.list ((ns.zipIdx.foldl (numS 6) [146, 6, 81, 208, 43, 1845]).map .int))) ⟨tp, none⟩ := (numbers_ex G hl).fn (k := 3) G.f.f_numbers (by kernel_rfl) rfl rfl (.inl rfl) tt
theorem longest_c (G : Gl c) {x : Str} (hl : (wsOf x).cnt.length ≤ 101) : CallM c (n + 1) (.ws (wsF x)) "longest_run_of_spaces" [] ⟨tp, none⟩ (.p (.int (lrF (wsOf x)))) ⟨tp, none⟩ := (longest_ex G hl).mth (k := 2) G.k.m_longest (by kernel_rfl) rfl rfl (by kernel_rfl) (.inl rfl) tt
theorem indent_c (G : Gl c) {x : Str} {ts : Int} (h1 : 1 ≤ ts ∧ ts ≤ 1000) (hl : (wsOf x).cnt.length ≤ 101) : CallM c (n + 1) (.ws (wsF x)) "indent_level" [.p (.int ts)] ⟨tp, none⟩ (.p (.int (indF ts (wsOf x)))) ⟨tp, none⟩ := (indent_ex G h1 hl).mth (k := 4) G.k.m_indent (by kernel_rfl) rfl rfl (by kernel_rfl) (.inl rfl) tt
theorem cls_c (G : Gl c) {x : Str} (hx : x.cps.toList.length ≤ 100) : CallN c (n + 2) "Whitespace" [.p (.str x)] ⟨none, none⟩ (.ws (wsF x)) ⟨none, none⟩ := CallN.cls G.k.m_init (ScOK.of (by kernel_rfl)) G.k.cls G.k.kC G.ok rfl (fun d m => by cases List.mem_singleton.mp m; exact ⟨nofun, nofun⟩) ((init_ex G hx).gro (le_fn (k := 7) (ds := [.self, .p (.str x)])))
end
end
noncomputable section
open PySem PySem.W PyProof.Rows PyProof.Rows.LSm PySem.Spec PyProof.V PySem.Calls
section
variable {c : Cx} {n : Nat} {T : TS} {tp : Option (List Nat)} {t : PySem.Expr} {body : List Stmt}
noncomputable abbrev T3 : Type := Int × Int × Int
noncomputable def tup3 (p : T3) : PyData := .tuple [.int p.1, .int p.2.1, .int p.2.2]
noncomputable def witS (u w : WS) (l : List T3) (q : Nat) : List T3 := bif indF (1 + q) u != indF (1 + q) w then l ++ [(1 + (q : Int), indF (1 + q) u, indF (1 + q) w)] else l
noncomputable def max2 (i j : Int) : Int := if j > i then j else i
noncomputable def witN (u w : WS) : Nat := (max2 (lrF u) (lrF w) + 1).toNat
noncomputable def witF (u w : WS) : List T3 := (List.range (witN u w)).foldl (witS u w) []
structure WSok (x : Str) : Prop where
  len : (wsOf x).cnt.length ≤ 101
  b : 0 ≤ (wsOf x).b ∧ (wsOf x).b ≤ 100
theorem lrF_bd {x : Str} (h : WSok x) : 0 ≤ lrF (wsOf x) ∧ lrF (wsOf x) ≤ 101 := by
  have := h.1
  have := h.2
  unfold lrF
  split <;> (first | (simp +arith only; done) | lia | omega)
theorem witness_ex (G : Gl c) {x y : Str} (hx : WSok x) (hy : WSok y) : Ex c (n + 1) S_witness [] [some (.v (.ws (wsF x))), some (.v (.ws (wsF y))), none, none, none] ⟨tp, none⟩ B_witness.1 (.ret (.p (.list ((witF (wsOf x) (wsOf y)).map tup3)))) [] ⟨tp, none⟩ := by
  have b1 := lrF_bd hx
  have b2 := lrF_bd hy
  have b3 : 0 ≤ max2 (lrF (wsOf x)) (lrF (wsOf y)) ∧ max2 (lrF (wsOf x)) (lrF (wsOf y)) ≤ 101 := by unfold max2; split <;> (first | (simp +arith only; done) | lia | omega)
  have hN : (witN (wsOf x) (wsOf y) : Int) = max2 (lrF (wsOf x)) (lrF (wsOf y)) + 1 := by unfold witN; (first | (simp +arith only; done) | lia | omega)
  show Ex _ _ _ _ _ _ (_ :: _) _ _ _
  refine' Ex.cons (X1.assign (fun _ _ => rfl) (Ev.bin (Ev.callN S_witness_5 (fun _ _ => rfl) (EvL.cons (Ev.callM (fun _ _ => rfl) (fun _ => by kernel_rfl) (Ev.namV S_witness_0 rfl) EvL.nil (longest_c G (by first | exact hx.1 | exact hy.1))) (EvL.cons (Ev.callM (fun _ _ => rfl) (fun _ => by kernel_rfl) (Ev.namV S_witness_1 rfl) EvL.nil (longest_c G (by first | exact hx.1 | exact hy.1))) EvL.nil fun _ => rfl) fun _ => rfl) (cMax G Call.max2)) Ev.int Bin.add) S_witness_2.hk (Nat.le_of_ble_eq_true (by kernel_rfl)) (.inl rfl)) ?_; rotate_right
  refine' Ex.cons (X1.own (l := List.map tup3 []) (fun _ _ => rfl) (.inl (EvO.list EvP.nil (by simp))) (fun d m => nomatch m) S_witness_3.hk (Nat.le_of_ble_eq_true (by kernel_rfl)) (.inl rfl)) ?_
  have e : ((max2 (lrF (wsOf x)) (lrF (wsOf y)) + 1 + 1) - 1).toNat = witN (wsOf x) (wsOf y) := by (first | (simp +arith only; done) | lia | omega)
  refine' Ex.cons (X1.for (Γ' := [some (.v (.ws (wsF x))), some (.v (.ws (wsF y))), none, some (.own ((witF (wsOf x) (wsOf y)).map tup3)), none]) (fun _ _ => rfl) (EvI.cast (rng2 (b := max2 (lrF (wsOf x)) (lrF (wsOf y)) + 1 + 1) S_witness_6 G (fun _ _ => rfl) (EvL.cons Ev.int (EvL.cons (Ev.bin (Ev.namV S_witness_2 rfl) Ev.int Bin.add) EvL.nil fun _ => rfl) fun _ => rfl) ⟨by (first | (simp +arith only; done) | lia | omega), by (first | (simp +arith only; done) | lia | omega), by (first | (simp +arith only; done) | lia | omega), by (first | (simp +arith only; done) | lia | omega)⟩ fun _ _ => rfl) (congrArg (fun k => (List.range k).map fun q : Nat => PyData.int (1 + q)) e))
    (Run.foldN (fun l : List T3 => [some (.v (.ws (wsF x))), some (.v (.ws (wsF y))), some (.v (.p (.int (max2 (lrF (wsOf x)) (lrF (wsOf y)) + 1)))), some (.own (l.map tup3)), none]) (witS (wsOf x) (wsOf y)) (s := []) (fun m l => l.length + m ≤ 1000) (by rw [List.length_range]; show 0 + _ ≤ 1000; (first | (simp +arith only; done) | lia | omega)) (fun l m q _ h => ?i) (fun l m q hq h => ?r) fun _ => Ex.le Ex.nil (LeL.le (.same _ _ _ (.same _ _ _ (.skip _ _ _ (.same _ _ _ (.skip _ _ _ (.nil _))))))))) ?_
  case i =>
    unfold witS
    cases indF (1 + (q : Int)) (wsOf x) != indF (1 + q) (wsOf y) with
    | true => rw [cond_true, List.length_append, List.length_singleton]; (first | (simp +arith only; done) | lia | omega)
    | false => rw [cond_false]; (first | (simp +arith only; done) | lia | omega)
  case r =>
    have hq := List.mem_range.mp hq
    have h1 : 1 ≤ 1 + (q : Int) ∧ 1 + (q : Int) ≤ 1000 := ⟨by (first | (simp +arith only; done) | lia | omega), by (first | (simp +arith only; done) | lia | omega)⟩
    have hx' := indent_c (n := n) (tp := tp) G h1 hx.1
    have hy' := indent_c (n := n) (tp := tp) G h1 hy.1
    refine' Turn.mk (Γ₂ := [some (.v (.ws (wsF x))), some (.v (.ws (wsF y))), some (.v (.p (.int (max2 (lrF (wsOf x)) (lrF (wsOf y)) + 1)))), some (.own ((witS (wsOf x) (wsOf y) l q).map tup3)), none]) (Tg.name S_witness_4.hk (Nat.le_of_ble_eq_true (by kernel_rfl)) (.inl rfl)) (Ex.cons (X1.if (.inr (Tr.cmp (Ev.callM (fun _ _ => rfl) (fun _ => by kernel_rfl) (Ev.namV S_witness_0 rfl) (EvL.cons (Ev.namV S_witness_4 rfl) EvL.nil fun _ => rfl) (by first | exact hx' | exact hy')) (Ev.callM (fun _ _ => rfl) (fun _ => by kernel_rfl) (Ev.namV S_witness_1 rfl) (EvL.cons (Ev.namV S_witness_4 rfl) EvL.nil fun _ => rfl) (by first | exact hx' | exact hy')) Cmp.neI rfl)) (fun e => ?th) fun e => ?el) Ex.nil) ?le
    case th =>
      have hw : witS (wsOf x) (wsOf y) l q = l ++ [(1 + (q : Int), indF (1 + q) (wsOf x), indF (1 + q) (wsOf y))] := by unfold witS; rw [e, cond_true]
      rw [hw, List.map_append]
      exact Ex.cons (X1.write F.slot_list_append F.type_list_append (fun _ _ => rfl) (EvL.cons (Ev.tup (EvP.cons (Ev.namV S_witness_4 rfl) (EvP.cons (Ev.callM (fun _ _ => rfl) (fun _ => by kernel_rfl) (Ev.namV S_witness_0 rfl) (EvL.cons (Ev.namV S_witness_4 rfl) EvL.nil fun _ => rfl) (by first | exact hx' | exact hy')) (EvP.cons (Ev.callM (fun _ _ => rfl) (fun _ => by kernel_rfl) (Ev.namV S_witness_1 rfl) (EvL.cons (Ev.namV S_witness_4 rfl) EvL.nil fun _ => rfl) (by first | exact hx' | exact hy')) EvP.nil fun _ => rfl) fun _ => rfl) fun _ => rfl) (Nat.le_of_ble_eq_true (by kernel_rfl))) EvL.nil fun _ => rfl) (Wr.append (by rw [List.length_map]; (first | (simp +arith only; done) | lia | omega))) (fun _ => by kernel_rfl) S_witness_3.hk (Nat.le_of_ble_eq_true (by kernel_rfl)) S_witness_3.hd rfl rfl) (Ex.le Ex.nil (LeL.le (.same _ _ _ (.same _ _ _ (.same _ _ _ (.same _ _ _ (.skip _ _ _ (.nil _))))))))
    case el =>
      have hw : witS (wsOf x) (wsOf y) l q = l := by unfold witS; rw [e, cond_false]
      rw [hw]
      exact Ex.le Ex.nil (LeL.le (.same _ _ _ (.same _ _ _ (.same _ _ _ (.same _ _ _ (.skip _ _ _ (.nil _)))))))
    case le => exact .same _ _ _ (.same _ _ _ (.same _ _ _ (.same _ _ _ (.skip _ _ _ (.nil _)))))
  refine' Ex.stop (X1.ret (Ev.namO S_witness_3 rfl)) Fl.noConfusion
end
end
noncomputable section
open PySem PySem.W PyProof.Rows PyProof.Rows.LSm PySem.Spec PyProof.V PySem.Calls
section
variable {c : Cx} {n : Nat} {T : TS} {tp : Option (List Nat)} {t : PySem.Expr} {body : List Stmt}
theorem witness_c (G : Gl c) (hm : MethAt c "not_equal_witness" B_witness.1 S_witness ["self", "other"]) {x y : Str} (hx : WSok x) (hy : WSok y) : CallM c (n + 2) (.ws (wsF x)) "not_equal_witness" [.ws (wsF y)] ⟨tp, none⟩ (.p (.list ((witF (wsOf x) (wsOf y)).map tup3))) ⟨tp, none⟩ := (witness_ex G hx hy).mth (k := 3) hm (by kernel_rfl) rfl rfl (by kernel_rfl) (.inl rfl) tt
theorem column_c (hf : FnAt c "_law_column" B_column.1 S_column ["lead", "size"]) {x : Str} {size : Int} (hs : size ≠ 0) : CallN c (n + 1) "_law_column" [.p (.str x), .p (.int size)] ⟨tp, none⟩ (.p (.int (colF size x))) ⟨tp, none⟩ := (column_ex hs).fn (k := 2) hf (by kernel_rfl) rfl rfl (.inl rfl) tt
noncomputable def seenF (x : Str) : List Int := (List.range 4).map fun q : Nat => colF (1 + q) x
noncomputable def lens (x : Str) : List Int := (Txt.split x "\t").map fun r => (r.length : Int)
noncomputable def lngF (x : Str) : Int := (lens x).foldl max2 0
structure LeadOK (x : Str) : Prop where
  hx : x.length ≤ sizeLine
  hz : (Builtin.Str.partsBetween x (Builtin.Str.occurrences x "\t" 0 x.length (x.length + 1)) ("\t" : Str).length).length ≤ sizeLine
  hl : ∀ r ∈ Txt.split x "\t", r.length ≤ 1000000
  hn : (Txt.split x "\t").length ≤ 1000000
  mem : lngF x ∈ lens x
  mx : ∀ y ∈ lens x, y ≤ lngF x
  b : 0 ≤ lngF x ∧ lngF x ≤ 3
noncomputable def pairD (p : Nat × Nat) : PyData := .tuple [.int p.1, .int p.2]
noncomputable def partF (x y : Str) : List T3 := ((List.range (max2 (lngF x) (lngF y) + 1).toNat).filter fun t => (seenF x)[t]! != (seenF y)[t]!).map fun t : Nat => ((t : Int) + 1, (seenF x)[t]!, (seenF y)[t]!)
theorem seenF_len {x : Str} : (seenF x).length = 4 := by unfold seenF; rw [List.length_map, List.length_range]
theorem parted_ex (G : Gl c) (hf : FnAt c "_law_column" B_column.1 S_column ["lead", "size"]) {xs : List Str} {ps : List (Nat × Nat)} (hx : ∀ x ∈ xs, LeadOK x) (hp : ∀ p ∈ ps, p.1 < xs.length ∧ p.2 < xs.length) (hl : xs.length ≤ 1000) (hl' : ps.length ≤ 1000) :
    Ex c (n + 1) S_parted O_parted [some (.v (.p (.list (xs.map .str)))), some (.v (.p (.list (ps.map pairD)))), none, none] ⟨tp, none⟩ B_parted.1 (.ret (.p (.list (ps.map fun p => .list ((partF xs[p.1]! xs[p.2]!).map tup3))))) [] ⟨tp, none⟩ := by
  have e1 : xs.map (fun x => PyData.list ((seenF x).map .int)) = (xs.map seenF).map fun r => .list (r.map .int) := by rw [List.map_map]; rfl
  have e2 : xs.map (fun x => PyData.int (lngF x)) = (xs.map lngF).map .int := by rw [List.map_map]; rfl
  show Ex _ _ _ _ _ _ (_ :: _) _ _ _
  refine' Ex.cons (X1.assign (dd := .p (.list ((xs.map seenF).map fun r => .list (r.map .int)))) (swC S_parted_2) (e1 ▸ EvO.ev (Comp.map (g := .str) (xs := xs) (sc' := S_parted0) (ow' := O_parted0) (mp := M_parted0) (by kernel_rfl) (fun _ _ => rfl) (EvI.list (Ev.namV S_parted_0 rfl) (.inl fun _ _ => rfl)) S_parted0_1 (.inr ⟨rfl, by simp⟩) rfl (fun x _ => ?a) rfl (by (first | (simp +arith only; done) | lia | omega)))) S_parted_2.hk (Nat.le_of_ble_eq_true (by kernel_rfl)) (.inr ⟨rfl, by simp⟩)) ?_
  case a =>
    refine' Ev.cast (EvO.ev (Comp.map (g := fun q : Nat => .int (1 + q)) (xs := List.range ((5 : Int) - 1).toNat) (f := fun q : Nat => .int (colF (1 + q) x)) (sc' := S_parted1) (ow' := O_parted1) (mp := M_parted1) (by kernel_rfl) (fun _ _ => rfl) (rng2 S_parted0_2 G (fun _ _ => rfl) (EvL.cons Ev.int (EvL.cons Ev.int EvL.nil fun _ => rfl) fun _ => rfl) ⟨by decide, by decide, by decide, by decide⟩ fun _ _ => rfl) S_parted1_1 (.inl rfl) rfl (fun q _ => ?b) rfl (by decide))) ?e
    case b => exact (Ev.callN S_parted1_2 (fun _ _ => rfl) (EvL.cons (Ev.namV S_parted1_3 rfl) (EvL.cons (Ev.namV S_parted1_1 rfl) EvL.nil fun _ => rfl) fun _ => rfl) (column_c hf (by (first | (simp +arith only; done) | lia | omega))))
    case e => unfold seenF; rw [List.map_map]; rfl
  refine' Ex.cons (X1.assign (dd := .p (.list ((xs.map lngF).map .int))) (swC S_parted_3) (e2 ▸ EvO.ev (Comp.map (g := .str) (xs := xs) (sc' := S_parted2) (ow' := O_parted2) (mp := M_parted2) (by kernel_rfl) (fun _ _ => rfl) (EvI.list (Ev.namV S_parted_0 rfl) (.inl fun _ _ => rfl)) S_parted2_1 (.inl rfl) rfl (fun x hm => ?d) rfl (by (first | (simp +arith only; done) | lia | omega)))) S_parted_3.hk (Nat.le_of_ble_eq_true (by kernel_rfl)) (.inr ⟨rfl, by simp⟩)) ?_
  case d =>
    have h := hx x hm
    have e : (Txt.split x "\t").map (fun r => PyData.int (r.length : Int)) = (lens x).map .int := by unfold lens; rw [List.map_map]; rfl
    exact Ev.callN S_parted2_2 (fun _ _ => rfl) (EvL.cons (Ev.cast (EvO.ev (Comp.map (g := .str) (xs := Txt.split x "\t") (f := fun r => .int (r.length : Int)) (sc' := S_parted3) (ow' := O_parted3) (mp := M_parted3) (by kernel_rfl) (fun _ _ => rfl) (EvI.list (Ev.callM (fun _ _ => rfl) (fun _ => by kernel_rfl) (Ev.namV S_parted2_1 rfl) (EvL.cons Ev.str EvL.nil fun _ => rfl) (mSplit rfl (by kernel_rfl) h.hx h.hz)) (.inl fun _ _ => rfl)) S_parted3_1 (.inl rfl) rfl (fun r hr => (Ev.callN S_parted3_2 (fun _ _ => rfl) (EvL.cons (Ev.namV S_parted3_1 rfl) EvL.nil fun _ => rfl) (cLenS G (h.hl r hr)))) rfl h.hn)) (congrArg PyData.list e)) EvL.nil fun _ => rfl) (cMax G (Call.maxL h.mem h.mx))
  refine' Ex.stop (X1.ret (EvO.ev (Comp.mapP (g₁ := fun p : Nat × Nat => .int p.1) (g₂ := fun p : Nat × Nat => .int p.2) (xs := ps) (sc' := S_parted4) (ow' := O_parted4) (mp := M_parted4) (by kernel_rfl) (fun _ _ => rfl) (EvI.list (Ev.namV S_parted_1 rfl) (.inr ⟨⟨_, _, _, rfl⟩, fun d m => ?g⟩)) S_parted4_1 (.inr ⟨rfl, by simp⟩) rfl S_parted4_2 (.inr ⟨rfl, by simp⟩) rfl (by decide) (fun _ => rfl) (fun p hm => ?f) rfl (by (first | (simp +arith only; done) | lia | omega))))) Fl.noConfusion
  case g => obtain ⟨p, _, rfl⟩ := List.mem_map.mp m; exact ⟨_, rfl⟩
  case f =>
    obtain ⟨h1, h2⟩ := hp p hm
    have m1 : (xs[p.1]! : Str) ∈ xs := by rw [getElem!_pos xs p.1 h1]; exact List.getElem_mem h1
    have m2 : (xs[p.2]! : Str) ∈ xs := by rw [getElem!_pos xs p.2 h2]; exact List.getElem_mem h2
    have b1 := (hx _ m1).b
    have b2 := (hx _ m2).b
    have l1 : (xs.map lngF)[p.1]? = some (lngF xs[p.1]!) := by rw [List.getElem?_map, List.getElem?_eq_getElem h1, getElem!_pos xs _ h1]; rfl
    have l2 : (xs.map lngF)[p.2]? = some (lngF xs[p.2]!) := by rw [List.getElem?_map, List.getElem?_eq_getElem h2, getElem!_pos xs _ h2]; rfl
    have s1 : (xs.map seenF)[p.1]? = some (seenF xs[p.1]!) := by rw [List.getElem?_map, List.getElem?_eq_getElem h1, getElem!_pos xs _ h1]; rfl
    have s2 : (xs.map seenF)[p.2]? = some (seenF xs[p.2]!) := by rw [List.getElem?_map, List.getElem?_eq_getElem h2, getElem!_pos xs _ h2]; rfl
    have kl : (xs.map lngF).length ≤ 1000000 := by rw [List.length_map]; (first | (simp +arith only; done) | lia | omega)
    have ks : (xs.map seenF).length ≤ 1000000 := by rw [List.length_map]; (first | (simp +arith only; done) | lia | omega)
    have bm : 0 ≤ max2 (lngF xs[p.1]!) (lngF xs[p.2]!) ∧ max2 (lngF xs[p.1]!) (lngF xs[p.2]!) ≤ 3 := by unfold max2; split <;> (first | (simp +arith only; done) | lia | omega)
    have tt : ∀ x, ∀ t ∈ List.range (max2 (lngF xs[p.1]!) (lngF xs[p.2]!) + 1).toNat, (seenF x)[t]? = some (seenF x)[t]! := fun x t m => by
      have hb : t < (seenF x).length := by
        have := List.mem_range.mp m
        rw [seenF_len]; (first | (simp +arith only; done) | lia | omega)
      rw [List.getElem?_eq_getElem hb, getElem!_pos (seenF x) t hb]
    have k4 : ∀ x, (seenF x).length ≤ 1000000 := fun x => by rw [seenF_len]; decide
    exact Ev.cast (EvO.ev (Comp.fil (g := fun t : Nat => .int t) (xs := List.range (max2 (lngF xs[p.1]!) (lngF xs[p.2]!) + 1).toNat) (p := fun t => (seenF xs[p.1]!)[t]! != (seenF xs[p.2]!)[t]!) (f := fun t : Nat => tup3 ((t : Int) + 1, (seenF xs[p.1]!)[t]!, (seenF xs[p.2]!)[t]!)) (sc' := S_parted5) (ow' := O_parted5) (mp := M_parted5) (by kernel_rfl) (fun _ _ => rfl)
      (rng1 S_parted4_3 G (fun _ _ => rfl) (EvL.cons (Ev.bin (Ev.callN S_parted4_4 (fun _ _ => rfl) (EvL.cons (Ev.item (fun _ _ => rfl) (Ev.namV S_parted4_5 rfl) (Ev.namV S_parted4_1 rfl) (Sub.listN l1 kl)) (EvL.cons (Ev.item (fun _ _ => rfl) (Ev.namV S_parted4_5 rfl) (Ev.namV S_parted4_2 rfl) (Sub.listN l2 kl)) EvL.nil fun _ => rfl) fun _ => rfl) (cMax G Call.max2)) Ev.int Bin.add) EvL.nil fun _ => rfl) (show 0 ≤ max2 (lngF xs[p.1]!) (lngF xs[p.2]!) + 1 ∧ max2 (lngF xs[p.1]!) (lngF xs[p.2]!) + 1 ≤ 1000000 by (first | (simp +arith only; done) | lia | omega)) (fun _ _ => rfl))
      S_parted5_1 (.inl rfl) rfl (fun t m => (Tr.cmp (Ev.item (fun _ _ => rfl) (Ev.item (fun _ _ => rfl) (Ev.namV S_parted5_4 rfl) (Ev.namV S_parted5_2 rfl) (Sub.listN s1 ks)) (Ev.namV S_parted5_1 rfl) (Sub.listN (tt _ t m) (k4 _))) (Ev.item (fun _ _ => rfl) (Ev.item (fun _ _ => rfl) (Ev.namV S_parted5_4 rfl) (Ev.namV S_parted5_3 rfl) (Sub.listN s2 ks)) (Ev.namV S_parted5_1 rfl) (Sub.listN (tt _ t m) (k4 _))) Cmp.neI rfl))
      (fun t m _ => (Ev.tup (EvP.cons (Ev.bin (Ev.namV S_parted5_1 rfl) Ev.int Bin.add) (EvP.cons (Ev.item (fun _ _ => rfl) (Ev.item (fun _ _ => rfl) (Ev.namV S_parted5_4 rfl) (Ev.namV S_parted5_2 rfl) (Sub.listN s1 ks)) (Ev.namV S_parted5_1 rfl) (Sub.listN (tt _ t m) (k4 _))) (EvP.cons (Ev.item (fun _ _ => rfl) (Ev.item (fun _ _ => rfl) (Ev.namV S_parted5_4 rfl) (Ev.namV S_parted5_3 rfl) (Sub.listN s2 ks)) (Ev.namV S_parted5_1 rfl) (Sub.listN (tt _ t m) (k4 _))) EvP.nil fun _ => rfl) fun _ => rfl) fun _ => rfl) (Nat.le_of_ble_eq_true (by kernel_rfl)))) rfl (by rw [List.length_range]; (first | (simp +arith only; done) | lia | omega)))) (by unfold partF; rw [List.map_map]; rfl)
end
end
noncomputable section
open PySem PySem.W PyProof.Rows PyProof.Rows.LSm PySem.Spec PyProof.V PySem.Calls
section
variable {c : Cx} {n : Nat} {T : TS} {tp : Option (List Nat)} {t : PySem.Expr} {body : List Stmt}
noncomputable def sgn (p : T3) : Int := bif decide (p.2.1 < p.2.2) then 1 else -1
noncomputable def leftF (r : List T3) : Int := (r.map sgn).sum
noncomputable def winF (r : List T3) (f : Bool) : Bool := decide (0 < leftF r) || ((leftF r == 0) && f)
noncomputable def addAt (ll : List (List Nat)) (i k : Nat) : List (List Nat) := ll.set i (ll[i]! ++ [k])
noncomputable def chartS (ps : List (Nat × Nat)) (rs : List (List T3)) (fs : List Bool) (ll : List (List Nat)) (j : Nat) : List (List Nat) := bif winF rs[j]! fs[j]! then addAt ll (ps[j]!).1 (ps[j]!).2 else addAt ll (ps[j]!).2 (ps[j]!).1
noncomputable def natD (r : List Nat) : List PyData := r.map fun q : Nat => .int q
noncomputable def srt (r : List Nat) : List Nat := r.mergeSort (· ≤ ·)
noncomputable def chartF (ps : List (Nat × Nat)) (rs : List (List T3)) (fs : List Bool) : List (List Nat) := (((List.range 15).foldl (chartS ps rs fs) [[], [], [], [], [], []]).map srt)
theorem addAt_len {ll : List (List Nat)} {i k m : Nat} (h : ll.length = 6 ∧ ∀ r ∈ ll, r.length + (m + 1) ≤ 50) (hi : i < 6) : (addAt ll i k).length = 6 ∧ ∀ r ∈ addAt ll i k, r.length + m ≤ 50 := by
  unfold addAt
  refine ⟨by rw [List.length_set]; exact h.1, fun r hr => ?_⟩
  rcases List.mem_or_eq_of_mem_set hr with hr | rfl
  · have := h.2 r hr; (first | (simp +arith only; done) | lia | omega)
  · rw [getElem!_pos ll i (by (first | (simp +arith only; done) | lia | omega)), List.length_append, List.length_singleton]
    have := h.2 _ (List.getElem_mem (show i < ll.length by (first | (simp +arith only; done) | lia | omega)))
    (first | (simp +arith only; done) | lia | omega)
theorem addAt_map {ll : List (List Nat)} {i k : Nat} : (addAt ll i k).map natD = (ll.map natD).set i (natD ll[i]! ++ [.int k]) := by
  unfold addAt
  rw [List.map_set]
  unfold natD
  rw [List.map_append]
  rfl
theorem chartS_inv {ps : List (Nat × Nat)} {rs : List (List T3)} {fs : List Bool} (hp : ps.length = 15 ∧ ∀ p ∈ ps, p.1 < 6 ∧ p.2 < 6) (ll : List (List Nat)) (m j : Nat) (hj : j ∈ List.range 15) (h : ll.length = 6 ∧ ∀ r ∈ ll, r.length + (m + 1) ≤ 50) : (chartS ps rs fs ll j).length = 6 ∧ ∀ r ∈ chartS ps rs fs ll j, r.length + m ≤ 50 := by
  have hj' : j < ps.length := by rw [hp.1]; exact List.mem_range.mp hj
  have hb := hp.2 _ (List.getElem_mem hj')
  unfold chartS
  rw [getElem!_pos ps j hj']
  cases winF rs[j]! fs[j]! with
  | true => exact addAt_len h hb.1
  | false => exact addAt_len h hb.2
theorem fold_keep {σ α : Type} {f : σ → α → σ} {xs : List α} {s : σ} (I : Nat → σ → Prop) (h0 : I xs.length s) (hI : ∀ s m, ∀ a ∈ xs, I (m + 1) s → I m (f s a)) : I 0 (xs.foldl f s) := by
  induction xs generalizing s with
  | nil => exact h0
  | cons a xs ih => exact ih (hI s _ a (List.mem_cons_self ..) h0) fun s k b m => hI s k b (List.mem_cons_of_mem _ m)
theorem chart_inv {ps : List (Nat × Nat)} {rs : List (List T3)} {fs : List Bool} (hp : ps.length = 15 ∧ ∀ p ∈ ps, p.1 < 6 ∧ p.2 < 6) : ((List.range 15).foldl (chartS ps rs fs) [[], [], [], [], [], []]).length = 6 ∧ ∀ r ∈ (List.range 15).foldl (chartS ps rs fs) [[], [], [], [], [], []], r.length + 0 ≤ 50 :=
  fold_keep (fun m ll => ll.length = 6 ∧ ∀ r ∈ ll, r.length + m ≤ 50) ⟨rfl, by decide⟩ fun ll m j hj h => chartS_inv hp ll m j hj h
theorem srt_c (G : Gl c) {T : TS} {r : List Nat} (h : r.length < 64) : CallN c n "sorted" [.p (.list (natD r))] T (.p (.list (natD (srt r)))) T := by
  have e : ∀ r : List Nat, natD r = (r.map fun q : Nat => (q : Int)).map .int := fun r => by unfold natD; rw [List.map_map]; rfl
  rw [e, e]
  refine cSorted G (by rw [List.length_map]; exact h) ((List.mergeSort_perm r _).map _) ?_
  refine List.pairwise_map.mpr ((List.pairwise_mergeSort (fun a b c => ?_) (fun a b => ?_) r).imp fun z => ?_)
  · simpa using Nat.le_trans
  · simpa using Nat.le_total a b
  · exact Int.ofNat_le.mpr (by simpa using z)
theorem chart_ex (G : Gl c) {ps : List (Nat × Nat)} {rs : List (List T3)} {fs : List Bool} (hp : ps.length = 15 ∧ ∀ p ∈ ps, p.1 < 6 ∧ p.2 < 6) (hr : rs.length = 15 ∧ ∀ r ∈ rs, r.length ≤ 1000) (hf : fs.length = 15) :
    Ex c n S_chart [] [some (.v (.p (.list (ps.map pairD)))), some (.v (.p (.list (rs.map fun r => .list (r.map tup3))))), some (.v (.p (.list (fs.map .bool)))), none, none, none, none, none] ⟨tp, none⟩ B_chart.1 (.ret (.p (.list ((chartF ps rs fs).map fun r => .list (natD r))))) [] ⟨tp, none⟩ := by
  show Ex _ _ _ _ _ _ (_ :: _) _ _ _
  refine' Ex.cons ?x ?f
  case x =>
    refine' X1.new2 ?a ?b ?c1 ?d ?e
    case d => exact S_chart_3.hk
    case e => exact (Nat.le_of_ble_eq_true (by kernel_rfl))
    case a => exact (fun _ _ => rfl)
    case c1 => exact (Nat.le_of_ble_eq_true rfl)
    case b => exact (List.forall_mem_cons.mpr ⟨⟨_, rfl⟩, List.forall_mem_cons.mpr ⟨⟨_, rfl⟩, List.forall_mem_cons.mpr ⟨⟨_, rfl⟩, List.forall_mem_cons.mpr ⟨⟨_, rfl⟩, List.forall_mem_cons.mpr ⟨⟨_, rfl⟩, List.forall_mem_cons.mpr ⟨⟨_, rfl⟩, fun _ m => nomatch m⟩⟩⟩⟩⟩⟩)
  case f =>
    refine' Ex.cons (X1.for (fun _ _ => rfl) (rng1 (b := 15) S_chart_8 G (fun _ _ => rfl) (EvL.cons Ev.int EvL.nil fun _ => rfl) ⟨by decide, by decide⟩ fun _ _ => rfl)
      (Run.foldN (xs := List.range 15) (fun ll : List (List Nat) => [some (.v (.p (.list (ps.map pairD)))), some (.v (.p (.list (rs.map fun r => .list (r.map tup3))))), some (.v (.p (.list (fs.map .bool)))), some (.own2 (ll.map natD)), none, none, none, none]) (chartS ps rs fs) (s := [[], [], [], [], [], []]) (fun m ll => ll.length = 6 ∧ ∀ r ∈ ll, r.length + m ≤ 50) ⟨rfl, by decide⟩ (chartS_inv hp) (fun ll m j hj h => ?r) fun h => Ex.nil)) ?_
    case r =>
      have hj' := List.mem_range.mp hj
      have p1 : ps[j]? = some ps[j]! := by rw [List.getElem?_eq_getElem (by (first | (simp +arith only; done) | lia | omega)), getElem!_pos ps j (by (first | (simp +arith only; done) | lia | omega))]
      have r1 : rs[j]? = some rs[j]! := by rw [List.getElem?_eq_getElem (by (first | (simp +arith only; done) | lia | omega)), getElem!_pos rs j (by (first | (simp +arith only; done) | lia | omega))]
      have f1 : fs[j]? = some fs[j]! := by rw [List.getElem?_eq_getElem (by (first | (simp +arith only; done) | lia | omega)), getElem!_pos fs j (by (first | (simp +arith only; done) | lia | omega))]
      have hb := hp.2 _ (List.mem_of_getElem? p1)
      have hrl := hr.2 _ (List.mem_of_getElem? r1)
      have pl : ps.length ≤ 1000000 := by (first | (simp +arith only; done) | lia | omega)
      have rl : rs.length ≤ 1000000 := by (first | (simp +arith only; done) | lia | omega)
      have fl : fs.length ≤ 1000000 := by (first | (simp +arith only; done) | lia | omega)
      have es : (rs[j]!).map (fun p => PyData.int (sgn p)) = ((rs[j]!).map sgn).map .int := by rw [List.map_map]; rfl
      have at' : ∀ i : Nat, i < 6 → (0 : Int) ≤ (i : Int) ∧ (ll.map natD)[(i : Int).toNat]? = some (natD ll[i]!) ∧ (ll.map natD).length ≤ 1000 ∧ (natD ll[i]!).length ≤ 1000 := fun i hi => by
        have hi' : i < ll.length := by (first | (simp +arith only; done) | lia | omega)
        refine ⟨Int.natCast_nonneg _, by rw [Int.toNat_natCast, List.getElem?_map, List.getElem?_eq_getElem hi', getElem!_pos ll i hi']; rfl, by rw [List.length_map]; (first | (simp +arith only; done) | lia | omega), ?_⟩
        have := h.2 _ (List.getElem_mem hi')
        rw [getElem!_pos ll i hi', natD, List.length_map]
        (first | (simp +arith only; done) | lia | omega)
      refine' Turn.mk (Γ₂ := [some (.v (.p (.list (ps.map pairD)))), some (.v (.p (.list (rs.map fun r => .list (r.map tup3))))), some (.v (.p (.list (fs.map .bool)))), some (.own2 ((chartS ps rs fs ll j).map natD)), none, none, none, none]) (Tg.name S_chart_4.hk (Nat.le_of_ble_eq_true (by kernel_rfl)) (.inl rfl)) ?ex ?le
      case le => exact .same _ _ _ (.same _ _ _ (.same _ _ _ (.same _ _ _ (.same _ _ _ (.same _ _ _ (.same _ _ _ (.same _ _ _ (.nil _))))))))
      case ex =>
        refine' Ex.cons (X1.unpack (fun _ => ⟨rfl, rfl⟩) (Ev.item (fun _ _ => rfl) (Ev.namV S_chart_0 rfl) (Ev.namV S_chart_4 rfl) (Sub.listN p1 pl)) (Tg.pair (d₁ := .int (ps[j]!).1) (d₂ := .int (ps[j]!).2) S_chart_5.hk (Nat.le_of_ble_eq_true (by kernel_rfl)) (.inl rfl) S_chart_6.hk (Nat.le_of_ble_eq_true (by kernel_rfl)) (.inl rfl) fun _ => rfl)) ?_
        refine' Ex.cons (X1.assign (dd := .p (.int (leftF rs[j]!))) (fun _ _ => rfl) (Ev.callN S_chart_9 (fun _ _ => rfl) (EvL.cons (Ev.cast (EvO.ev (Comp.map (g := tup3) (xs := rs[j]!) (f := fun p => .int (sgn p)) (sc' := S_chart0) (ow' := O_chart0) (mp := M_chart0) (by kernel_rfl) (fun _ _ => rfl) (EvI.list (Ev.item (fun _ _ => rfl) (Ev.namV S_chart_1 rfl) (Ev.namV S_chart_4 rfl) (Sub.listN r1 rl)) (.inl fun _ _ => rfl)) S_chart0_1 (.inl rfl) rfl (fun p _ => ?a) rfl (by (first | (simp +arith only; done) | lia | omega)))) (congrArg PyData.list es)) EvL.nil fun _ => rfl) (cSum G)) S_chart_7.hk (Nat.le_of_ble_eq_true (by kernel_rfl)) (.inl rfl)) ?_
        case a => exact (Ev.iteI (Tr.cmp (Ev.item (fun _ _ => rfl) (Ev.namV S_chart0_1 rfl) Ev.int (Sub.tuple (by decide) rfl (Nat.le_of_ble_eq_true (by kernel_rfl)))) (Ev.item (fun _ _ => rfl) (Ev.namV S_chart0_1 rfl) Ev.int (Sub.tuple (by decide) rfl (Nat.le_of_ble_eq_true (by kernel_rfl)))) Cmp.lt rfl) Ev.int Ev.neg)
        refine' Ex.cons (X1.if (b := winF rs[j]! fs[j]!) (.inr (Tr.cast (Tr.boolop (TrAll.or' rfl (Tr.cmp (Ev.namV S_chart_7 rfl) Ev.int Cmp.gt rfl) (TrAll.or' rfl (Tr.boolop (TrAll.and' rfl (Tr.cmp (Ev.namV S_chart_7 rfl) Ev.int Cmp.eqI rfl) (TrAll.and' rfl (Tr.bool (Ev.item (fun _ _ => rfl) (Ev.namV S_chart_2 rfl) (Ev.namV S_chart_4 rfl) (Sub.listN f1 fl)) fun _ _ => rfl) TrAll.andNil))) TrAll.orNil))) (by unfold winF; rw [Bool.and_true, Bool.or_false]))) (fun e => ?th) fun e => ?el) Ex.nil
        case th =>
          have hc : chartS ps rs fs ll j = addAt ll (ps[j]!).1 (ps[j]!).2 := by unfold chartS; rw [e, cond_true]
          rw [hc, addAt_map]
          exact Ex.cons (X1.append2 (l := natD ll[(ps[j]!).1]!) (ll := ll.map natD) (fun _ _ => rfl) (Ev.namV S_chart_5 rfl) (EvL.cons (Ev.namV S_chart_6 rfl) EvL.nil fun _ => rfl) (at' _ hb.1) (fun _ _ => rfl) (fun _ => by kernel_rfl) S_chart_3.hk (Nat.le_of_ble_eq_true (by kernel_rfl)) S_chart_3.hd rfl rfl) (Ex.le Ex.nil (LeL.le (.same _ _ _ (.same _ _ _ (.same _ _ _ (.same _ _ _ (.skip _ _ _ (.skip _ _ _ (.skip _ _ _ (.skip _ _ _ (.nil _)))))))))))
        case el =>
          have hc : chartS ps rs fs ll j = addAt ll (ps[j]!).2 (ps[j]!).1 := by unfold chartS; rw [e, cond_false]
          rw [hc, addAt_map]
          exact Ex.cons (X1.append2 (l := natD ll[(ps[j]!).2]!) (ll := ll.map natD) (fun _ _ => rfl) (Ev.namV S_chart_6 rfl) (EvL.cons (Ev.namV S_chart_5 rfl) EvL.nil fun _ => rfl) (at' _ hb.2) (fun _ _ => rfl) (fun _ => by kernel_rfl) S_chart_3.hk (Nat.le_of_ble_eq_true (by kernel_rfl)) S_chart_3.hd rfl rfl) (Ex.le Ex.nil (LeL.le (.same _ _ _ (.same _ _ _ (.same _ _ _ (.same _ _ _ (.skip _ _ _ (.skip _ _ _ (.skip _ _ _ (.skip _ _ _ (.nil _)))))))))))
    refine' Ex.stop (X1.ret (Ev.cast (EvO.ev (Comp.map (g := fun r => .list (natD r)) (xs := (List.range 15).foldl (chartS ps rs fs) [[], [], [], [], [], []]) (f := fun r => .list (natD (srt r))) (sc' := S_chart1) (ow' := O_chart1) (mp := M_chart1) (by kernel_rfl) (fun _ _ => rfl) (EvI.cast (EvI.list (Ev.namW S_chart_3 rfl) (.inl fun _ _ => rfl)) (List.map_map ..)) S_chart1_1 (.inl rfl) rfl (fun r hm => ?z) rfl (by have := (chart_inv (rs := rs) (fs := fs) hp).1; (first | (simp +arith only; done) | lia | omega)))) (by unfold chartF; rw [List.map_map]; rfl))) Fl.noConfusion
    case z => exact (Ev.callN S_chart1_2 (fun _ _ => rfl) (EvL.cons (Ev.namV S_chart1_1 rfl) EvL.nil fun _ => rfl) (srt_c G (Nat.lt_of_le_of_lt ((chart_inv hp).2 r hm) (by decide))))
end
end
noncomputable section
open PySem PySem.W PyProof.Rows PyProof.Rows.LSm PySem.Spec PyProof.V PySem.Calls
section
variable {c : Cx} {n : Nat} {tp : Option (List Nat)}
noncomputable def namT : {x : Str // ∃ a b1 b2 b3 b4 b5 b6 b7 b8 r, B_names.1 = .Assign a (.Call (.Attribute (.Constant (.str x) b1 b2) b3 b4) b5 b6 b7) b8 :: r} := ⟨_, _, _, _, _, _, _, _, _, _, _, rfl⟩
noncomputable def namL : List Str := Txt.split namT.1 " "
noncomputable def nameF (p : Int) : Str := bif decide (p < 10) then namL[p.toNat]! else "0x" ++ Txt.item "1248" (p.fmod 4) ++ Txt.mul "0" (p.fdiv 4)
theorem namL_len : namL.length = 10 := by decide +kernel
theorem by4 {z : Int} (h : 0 ≤ z ∧ z ≤ 120) : (0 ≤ z.fmod 4 ∧ z.fmod 4 < 4) ∧ 0 ≤ z.fdiv 4 ∧ z.fdiv 4 ≤ 30 := by
  rw [Int.fmod_eq_emod_of_nonneg _ (by decide), Int.fdiv_eq_ediv_of_nonneg _ (by decide)]
  omega
theorem s0x : ("0x" : Str).length = 2 := by decide +kernel
theorem s1248 : ("1248" : Str).length = 4 := by decide +kernel
theorem mulz {k : Int} (h : 0 ≤ k ∧ k ≤ 30) : (Txt.mul "0" k).length ≤ 100 := by
  have : ∀ i : Fin 31, (Txt.mul "0" (i : Nat)).length ≤ 100 := by decide +kernel
  exact Int.toNat_of_nonneg h.1 ▸ this ⟨k.toNat, by (first | (simp +arith only; done) | lia | omega)⟩
theorem nmz {z : Int} (h : 0 ≤ z ∧ z ≤ 120) : (0 ≤ z.fmod 4 ∧ z.fmod 4 < ("1248" : Str).length ∧ ("1248" : Str).length ≤ 1000000) ∧ (("0" : Str).length ≤ 1000 ∧ 0 ≤ z.fdiv 4 ∧ z.fdiv 4 ≤ 1000) ∧ ("0x" ++ Txt.item "1248" (z.fmod 4) : Str).length + (Txt.mul "0" (z.fdiv 4)).length ≤ 1000000 ∧ ("0x" : Str).length + (Txt.item "1248" (z.fmod 4)).length ≤ 1000000 := by
  have h4 := by4 h
  have hl := mulz h4.2
  have e1 : (Txt.item "1248" (z.fmod 4)).length = 1 := rfl
  exact ⟨⟨h4.1.1, s1248 ▸ h4.1.2, s1248 ▸ by decide⟩, ⟨by decide +kernel, h4.2.1, Int.le_trans h4.2.2 (by decide)⟩,
    Nat.le_trans (Nat.add_le_add (Nat.le_of_eq ((Str.length_append _ _).trans (congr (congrArg _ s0x) e1))) hl) (by decide), Nat.le_trans (Nat.le_of_eq (congr (congrArg _ s0x) e1)) (by decide)⟩
theorem names_ex (G : Gl c) {b : Int} (hb : 0 ≤ b ∧ b ≤ 100) : Ex c n S_names O_names [some (.v (.p (.int b))), none] ⟨tp, none⟩ B_names.1 (.ret (.p (.list (((List.range 6).map fun q : Nat => nameF (b + q)).map .str)))) [] ⟨tp, none⟩ := by
  show Ex _ _ _ _ _ _ (_ :: _) _ _ _
  refine' Ex.cons ?a1 ?b1
  case a1 =>
    refine' X1.assign (dd := .p (.list (namL.map .str))) (fun _ _ => rfl) ?d S_names_1.hk (Nat.le_of_ble_eq_true (by kernel_rfl)) (.inr ⟨rfl, by simp⟩)
    case d =>
      refine' Ev.callM ?h ?i ?j ?k ?l
      case i => exact (fun _ => by kernel_rfl)
      case h => exact (fun _ _ => rfl)
      case j => exact Ev.str
      case k => exact (EvL.cons Ev.str EvL.nil fun _ => rfl)
      case l => exact mSplit (by kernel_rfl) (by decide +kernel) (by decide +kernel) (by decide +kernel)
  refine' Ex.stop (X1.ret (Ev.cast (EvO.ev (Comp.map (g := fun q : Nat => .int (b + q)) (xs := List.range (b + 6 - b).toNat) (f := fun q : Nat => .str (nameF (b + q))) (sc' := S_names0) (ow' := O_names0) (mp := M_names0) (by kernel_rfl) (fun _ _ => rfl) (rng2 S_names_2 G (fun _ _ => rfl) (EvL.cons (Ev.namV S_names_0 rfl) (EvL.cons (Ev.bin (Ev.namV S_names_0 rfl) Ev.int Bin.add) EvL.nil fun _ => rfl) fun _ => rfl) (by (first | (simp +arith only; done) | lia | omega)) fun _ _ => rfl) S_names0_1 (.inl rfl) rfl (fun q hq => ?a) rfl (by rw [List.length_range]; (first | (simp +arith only; done) | lia | omega)))) (by rw [show (b + 6 - b).toNat = 6 by (first | (simp +arith only; done) | lia | omega), List.map_map]; rfl))) Fl.noConfusion
  case a =>
    have hq := List.mem_range.mp hq
    refine Ev.ifexp (Tr.cmp (Ev.namV S_names0_1 rfl) Ev.int Cmp.lt rfl) (fun e => ?x) fun e => ?y
    case x =>
      have h := of_decide_eq_true e
      have hz : 0 ≤ b + (q : Int) ∧ (b + (q : Int)).toNat < namL.length ∧ namL.length ≤ 1000000 := by rw [namL_len]; (first | (simp +arith only; done) | lia | omega)
      exact Ev.cast (Ev.item (fun _ _ => rfl) (Ev.namV S_names0_2 rfl) (Ev.namV S_names0_1 rfl) (Sub.listD hz)) (by unfold nameF; rw [e, cond_true])
    case y =>
      have h := of_decide_eq_false e
      obtain ⟨hu, hv, hx, hy⟩ := nmz (z := b + q) (by (first | (simp +arith only; done) | lia | omega))
      unfold nameF
      rw [e, cond_false]
      clear h e
      generalize Str.ofString "0x" = X0 at hx hy ⊢
      generalize Str.ofString "1248" = X1 at hu hx hy ⊢
      generalize Str.ofString "0" = X2 at hv hx hy ⊢
      exact Ev.bin (Ev.bin Ev.str (Ev.item (fun _ _ => rfl) Ev.str (Ev.bin (Ev.namV S_names0_1 rfl) Ev.int (Bin.mod (by decide))) (Sub.str hu)) (Bin.addS hy)) (Ev.bin Ev.str (Ev.bin (Ev.namV S_names0_1 rfl) Ev.int (Bin.fdiv (by decide))) (Bin.mulS hv)) (Bin.addS hx)
end
end
noncomputable section
open PySem PySem.W PyProof.Rows PyProof.Rows.LSm PySem.Spec PyProof.V PySem.Calls
section
variable {c : Cx} {n : Nat} {T : TS} {tp : Option (List Nat)} {sc sc' : Scp} {ow ow' : List Str} {Γ : Gam} {x : Str} {px pos spos : Pos} {k : Nat} {kd : NameKind} {scope : Scope} {elt t iter : PySem.Expr} {ifs : List PySem.Expr} {gens : List Comprehension} {mp : List (Option Nat)} {α : Type}
theorem Comp.gen {g : α → PyData} {o : α → List PyData} {xs : List α} (hq : compB scope sc sc' ow' mp = true) (hg : gens[0]? = some ⟨t, iter, ifs, 0⟩) (hs : ∀ (env : Env) v, foldedSetIterable iter env v = pure v) (hi : EvI c n sc Γ T t iter (xs.map g) T)
    (st : ∀ a ∈ xs, Tn c n sc' ow' elt gens scope pos 0 t ifs (inG mp Γ) T (g a) ((o a).map .p) T) (hT : T.self = none) (hl : (xs.flatMap o).length ≤ 1000000) : EvO c n sc Γ T (.ListComp elt gens scope pos) (xs.flatMap o) T :=
  EvO.comp (CompOK.of hq hg hs) hi (flat_p ▸ Steps.mapM st) ⟨Iff.rfl, rfl, hT⟩ hl
theorem X1.usedC {g : α → PyData} {o : α → List PyData} {xs : List α} (hsw : ∀ env, EnvS sc env → swapsWith (.ListComp elt gens scope pos) (some (.Name x px)) spos.line env = pure true) (hq : compB scope sc sc' ow' mp = true) (hg : gens[0]? = some ⟨t, iter, ifs, 0⟩) (hs : ∀ (env : Env) v, foldedSetIterable iter env v = pure v) (hi : EvI c n sc (hide Γ) T t iter (xs.map g) T)
    (st : ∀ a ∈ xs, Tn c n sc' ow' elt gens scope pos 0 t ifs (inG mp (hide Γ)) T (g a) ((o a).map .p) T) (hT : T.self = none) (hl : (xs.flatMap o).length ≤ 1000000) (hk : sc[k]? = some (x, kd)) (hkl : k < Γ.length) (ho : OwnK kd x ow) :
    X1 c n sc ow Γ T (.Assign [.Name x px] (.ListComp elt gens scope pos) spos) .next (Γ.set k (some (.v (.p (.list (xs.flatMap o)))))) T :=
  X1.used hsw (CompOK.of hq hg hs) hi (flat_p ▸ Steps.mapM st) ⟨Iff.rfl, rfl, hT⟩ hl (.inl rfl) hk hkl ho
theorem flat_ifp {o : α → List PyData} {p : α → Bool} {xs : List α} : xs.flatMap (fun a => bif p a then (o a).map D.p else []) = ((xs.filter p).flatMap o).map .p := by
  induction xs with
  | nil => rfl
  | cons a xs ih =>
    rw [List.flatMap_cons, ih, List.filter_cons]
    cases p a with
    | true => rw [cond_true, if_pos rfl, List.flatMap_cons, List.map_append]
    | false => rw [cond_false, if_neg Bool.false_ne_true, List.nil_append]
theorem natD_any {w : List Nat} {k : Nat} : ((natD w).any fun y => PyData.eqv y (.int k)) = w.contains k := by
  induction w with
  | nil => rfl
  | cons a w ih =>
    rw [List.contains_cons, ← ih]
    show (PyData.eqv (.int a) (.int k) || _) = _
    refine congrArg (· || _) ?_
    show decide ((a : Int) = k) = _
    by_cases h : a = k
    · subst h; simp
    · rw [decide_eq_false (by (first | (simp +arith only; done) | lia | omega))]; simp [Ne.symm h]
theorem natD_lay {w : List Nat} : PyData.canLayAll0 (natD w) = true := by
  induction w with
  | nil => rfl
  | cons a w ih => exact ih
theorem natD_lay2 {w : List Nat} {k : Int} : (PyData.canLayAll0 (natD w) && SeqAt.shaped (.int k)) = true := by rw [natD_lay]; rfl
theorem natD_app {w : List Nat} {k : Nat} : natD w ++ [.int k] = natD (w ++ [k]) := by unfold natD; rw [List.map_append]; rfl
theorem natD_len {w : List Nat} : (natD w).length = w.length := by unfold natD; rw [List.length_map]
theorem flat_len {β : Type} {f : α → List β} {m : Nat} {xs : List α} (h : ∀ a ∈ xs, (f a).length ≤ m) : (xs.flatMap f).length ≤ xs.length * m := by
  induction xs with
  | nil => exact Nat.zero_le _
  | cons a xs ih =>
    rw [List.flatMap_cons, List.length_append, List.length_cons, Nat.succ_mul, Nat.add_comm]
    exact Nat.add_le_add (ih fun b hb => h b (List.mem_cons_of_mem _ hb)) (h a (List.mem_cons_self ..))
end
section
variable {c : Cx} {n : Nat} {T : TS} {tp : Option (List Nat)}
noncomputable def lastN (w : List Nat) : Nat := w.getLast?.getD 0
noncomputable def outW (aft : List (List Nat)) (w : List Nat) : List (List Nat) := ((aft[lastN w]!).filter fun one => !w.contains one).map fun one => w ++ [one]
noncomputable def waysS (aft : List (List Nat)) (s : List (List Nat) × List Int) (_ : Nat) : List (List Nat) × List Int := (s.1.flatMap (outW aft), s.2 ++ [(s.1.length : Int)])
noncomputable def waysF (aft : List (List Nat)) : List Int := ((List.range 6).foldl (waysS aft) ((List.range 6).map fun i => [i], [])).2
noncomputable def rowsD (ll : List (List Nat)) : List PyData := ll.map fun r => .list (natD r)
structure RowsOK (aft : List (List Nat)) : Prop where
  len : aft.length = 6
  row : ∀ r ∈ aft, r.length ≤ 6
  lt : ∀ r ∈ aft, ∀ x ∈ r, x < 6
structure WayI (m : Nat) (s : List (List Nat) × List Int) : Prop where
  sz : s.1.length * 6 ^ m ≤ 279936
  ne : ∀ w ∈ s.1, w ≠ []
  lt : ∀ w ∈ s.1, ∀ x ∈ w, x < 6
  wl : ∀ w ∈ s.1, w.length + m ≤ 100
  cl : s.2.length + m ≤ 100
theorem last_of {w : List Nat} (h : w ≠ []) : w.getLast? = some (lastN w) := by
  unfold lastN
  rw [List.getLast?_eq_some_getLast h]
  rfl
theorem RowsOK.at {aft : List (List Nat)} (R : RowsOK aft) {i : Nat} (h : i < 6) : aft[i]? = some aft[i]! ∧ aft[i]! ∈ aft := by
  have h' : i < aft.length := R.len ▸ h
  rw [List.getElem?_eq_getElem h', getElem!_pos aft i h']
  exact ⟨rfl, List.getElem_mem h'⟩
theorem last_lt {w : List Nat} (h : w ≠ []) (q : ∀ x ∈ w, x < 6) : lastN w < 6 := q _ (List.mem_of_getLast? (last_of h))
theorem out_len {aft : List (List Nat)} (R : RowsOK aft) {w : List Nat} (h : lastN w < 6) : (outW aft w).length ≤ 6 := by
  unfold outW
  rw [List.length_map]
  exact Nat.le_trans (List.length_filter_le ..) (R.row _ (R.at h).2)
theorem out_mem {aft : List (List Nat)} {w v : List Nat} (h : v ∈ outW aft w) : ∃ one ∈ aft[lastN w]!, v = w ++ [one] := by
  obtain ⟨one, m, rfl⟩ := List.mem_map.mp h
  exact ⟨one, (List.mem_filter.mp m).1, rfl⟩
theorem WayI.step {aft : List (List Nat)} (R : RowsOK aft) (s : List (List Nat) × List Int) (m a : Nat) (_ : a ∈ List.range 6) (J : WayI (m + 1) s) : WayI m (waysS aft s a) where
  sz := by
    have h1 : (s.1.flatMap (outW aft)).length ≤ s.1.length * 6 := flat_len fun w hw => out_len R (last_lt (J.ne w hw) (J.lt w hw))
    have h2 := J.sz
    rw [Nat.pow_succ, Nat.mul_comm (6 ^ m) 6, ← Nat.mul_assoc] at h2
    exact Nat.le_trans (Nat.mul_le_mul_right _ h1) h2
  ne := fun v hv => by
    obtain ⟨w, _, hv⟩ := List.mem_flatMap.mp hv
    obtain ⟨one, _, rfl⟩ := out_mem hv
    exact List.append_ne_nil_of_right_ne_nil _ (List.cons_ne_nil _ _)
  lt := fun v hv x hx => by
    obtain ⟨w, hw, hv⟩ := List.mem_flatMap.mp hv
    obtain ⟨one, ho, rfl⟩ := out_mem hv
    rcases List.mem_append.mp hx with hx | hx
    · exact J.lt w hw x hx
    · exact List.mem_singleton.mp hx ▸ R.lt _ (R.at (last_lt (J.ne w hw) (J.lt w hw))).2 _ ho
  wl := fun v hv => by
    obtain ⟨w, hw, hv⟩ := List.mem_flatMap.mp hv
    obtain ⟨one, _, rfl⟩ := out_mem hv
    have := J.wl w hw
    rw [List.length_append, List.length_singleton]; (first | (simp +arith only; done) | lia | omega)
  cl := by
    have := J.cl
    show (s.2 ++ [_]).length + m ≤ 100
    rw [List.length_append, List.length_singleton]; (first | (simp +arith only; done) | lia | omega)
theorem WayI.start : WayI 6 ((List.range 6).map fun i => [i], []) := ⟨by decide, by decide, by decide, by decide, by decide⟩
theorem ways_ex (G : Gl c) {aft : List (List Nat)} (R : RowsOK aft) : Ex c n S_ways O_ways [some (.v (.p (.list (rowsD aft)))), none, none, none] ⟨tp, none⟩ B_ways.1 (.ret (.p (.list ((waysF aft).map .int)))) [] ⟨tp, none⟩ := by
  show Ex _ _ _ _ _ _ (_ :: _) _ _ _
  refine' Ex.cons ?a1 ?a2
  case a1 =>
    refine' X1.usedC (g := fun i : Nat => .int i) (xs := List.range (6 : Int).toNat) (o := fun i : Nat => [.list (natD [i])]) (sc' := S_ways0) (ow' := O_ways0) (mp := M_ways0) (swL S_ways_1 (by kernel_rfl)) (by kernel_rfl) rfl (fun _ _ => rfl) (rng1 S_ways_4 G (fun _ _ => rfl) (EvL.cons Ev.int EvL.nil fun _ => rfl) (by decide) fun _ _ => rfl) (fun i _ => Tn.nam S_ways0_1 (.inl rfl) (inG_none rfl) (Rs.emit rfl (hide_set hide_inG) (Ev.list (EvP.cons (Ev.namV S_ways0_1 rfl) EvP.nil fun _ => rfl) (Nat.le_of_ble_eq_true (by kernel_rfl))))) rfl (by decide) S_ways_1.hk (Nat.le_of_ble_eq_true (by kernel_rfl)) (.inl rfl)
  refine' Ex.cons (X1.own (l := List.map .int []) (fun _ _ => rfl) (.inl (EvO.list EvP.nil (by simp))) (fun d m => nomatch m) S_ways_2.hk (Nat.le_of_ble_eq_true (by kernel_rfl)) (.inl rfl)) ?_
  refine' Ex.cons (X1.for (fun _ _ => rfl) (rng1 (b := 6) S_ways_4 G (fun _ _ => rfl) (EvL.cons Ev.int EvL.nil fun _ => rfl) ⟨by decide, by decide⟩ fun _ _ => rfl)
    (Run.foldN (xs := List.range 6) (fun s : List (List Nat) × List Int => [some (.v (.p (.list (rowsD aft)))), some (.v (.p (.list (rowsD s.1)))), some (.own (s.2.map .int)), none]) (waysS aft) (s := ((List.range 6).map fun i => [i], [])) WayI WayI.start (WayI.step R) (fun s m j hj J => ?r) fun h => Ex.nil)) ?_
  case r =>
    have hL : s.1.length ≤ 279936 := Nat.le_trans (Nat.le_mul_of_pos_right _ (Nat.pow_pos (by decide))) J.sz
    have hR : (rowsD s.1).length ≤ 1000000 := by unfold rowsD; rw [List.length_map]; (first | (simp +arith only; done) | lia | omega)
    refine' Turn.mk (Γ₂ := [some (.v (.p (.list (rowsD aft)))), some (.v (.p (.list (rowsD (waysS aft s j).1)))), some (.own ((waysS aft s j).2.map .int)), none]) (Tg.name S_ways_3.hk (Nat.le_of_ble_eq_true (by kernel_rfl)) (.inl rfl)) ?ex ?le
    case le => exact .same _ _ _ (.same _ _ _ (.same _ _ _ (.same _ _ _ (.nil _))))
    case ex =>
      refine' Ex.cons (X1.write F.slot_list_append F.type_list_append (fun _ _ => rfl) (EvL.cons (Ev.callN S_ways_5 (fun _ _ => rfl) (EvL.cons (Ev.namV S_ways_1 rfl) EvL.nil fun _ => rfl) (cLenL G hR)) EvL.nil fun _ => rfl) (Wr.append (by have := J.cl; rw [List.length_map]; (first | (simp +arith only; done) | lia | omega))) (fun _ => by kernel_rfl) S_ways_2.hk (Nat.le_of_ble_eq_true (by kernel_rfl)) S_ways_2.hd rfl rfl) ?_
      have e : (waysS aft s j).1.map (fun r => PyData.list (natD r)) = s.1.flatMap fun w => (outW aft w).map fun v => .list (natD v) := List.map_flatMap ..
      have e2 : (waysS aft s j).2.map PyData.int = s.2.map .int ++ [.int (rowsD s.1).length] := by unfold rowsD; rw [List.length_map]; exact List.map_append ..
      rw [e2]
      unfold rowsD
      rw [e]
      refine' Ex.cons ?a3 (Ex.le Ex.nil (LeL.le (.same _ _ _ (.same _ _ _ (.same _ _ _ (.skip _ _ _ (.nil _)))))))
      case a3 =>
        refine' X1.usedC (T := ⟨tp, none⟩) (g := fun w => .list (natD w)) (xs := s.1) (o := fun w => (outW aft w).map fun v => .list (natD v)) (sc' := S_ways1) (ow' := O_ways1) (mp := M_ways1) ?sw ?cp ?hg ?fs ?hi (fun w hw => ?st) ?hT ?len S_ways_1.hk ?hkl ?ho
        case sw => exact swL S_ways_1 (by kernel_rfl)
        case hg => rfl
        case cp => kernel_rfl
        case fs => exact fun _ _ => rfl
        case hi => exact EvI.list (Ev.namV S_ways_1 rfl) (.inl fun _ _ => rfl)
        case hT => rfl
        case hkl => exact (Nat.le_of_ble_eq_true (by kernel_rfl))
        case ho => exact (.inl rfl)
        case len => rw [← e, List.length_map]; exact Nat.le_trans (Nat.le_mul_of_pos_right _ (Nat.pow_pos (by decide))) (Nat.le_trans (WayI.step R s m j hj J).sz (by decide))
        case st =>
          have h6 := last_lt (J.ne w hw) (J.lt w hw)
          have hA := R.at h6
          have hl : (natD w).getLast? = some (.int (lastN w)) := by unfold natD; rw [List.getLast?_map, last_of (J.ne w hw)]; rfl
          have hwl : (natD w).length ≤ 1000000 := by have := J.wl w hw; rw [natD_len]; (first | (simp +arith only; done) | lia | omega)
          have hwl2 : (natD w).length + 1 ≤ 1000000 := by have := J.wl w hw; rw [natD_len]; (first | (simp +arith only; done) | lia | omega)
          have q : ((outW aft w).map fun v => PyData.list (natD v)).map D.p = (aft[lastN w]!).flatMap fun one => bif !w.contains one then [D.p (.list (natD (w ++ [one])))] else [] := by rw [flat_if (f := fun one => .list (natD (w ++ [one]))) (p := fun one => !w.contains one), outW, List.map_map (f := fun one => w ++ [one])]; rfl
          rw [q]
          refine' Tn.nam S_ways1_1 (.inl rfl) (inG_none rfl) (Rs.nextM (g := fun one : Nat => .int one) rfl (hide_set hide_inG) (fun _ _ => rfl) (EvI.list (Ev.item (fun _ _ => rfl) (Ev.namV S_ways1_3 rfl) (Ev.item (fun _ _ => rfl) (Ev.namV S_ways1_1 rfl) Ev.neg (Sub.last hl hwl)) (Sub.listN hA.1 (R.len ▸ by decide))) (.inl fun _ _ => by exact rfl)) fun one ho => ?st2)
          case st2 =>
            refine' Tn.namIf S_ways1_2 (.inl rfl) ⟨rfl, Nat.le_of_ble_eq_true (by kernel_rfl)⟩ (hide_set hide_inG) ?t fun _ => Rs.emit rfl (hide_set (hide_set hide_inG)) ?e
            case t => exact Tr.cast (Tr.cmp (Ev.namV S_ways1_2 rfl) (Ev.namV S_ways1_1 rfl) (Cmp.notIn (by exact natD_lay2)) rfl) (by rw [natD_any])
            case e => exact Ev.cast (EvO.bin (Ev.namV S_ways1_1 rfl) (Ev.list (EvP.cons (Ev.namV S_ways1_2 rfl) EvP.nil fun _ => rfl) (Nat.le_of_ble_eq_true (by kernel_rfl))) (addL (by exact hwl2))).ev (congrArg PyData.list natD_app)
  refine' Ex.stop (X1.ret (Ev.namO S_ways_2 rfl)) Fl.noConfusion
end
end
noncomputable section
open PySem PySem.W PyProof.Rows PyProof.Rows.LSm PySem.Spec PyProof.V PySem.Calls
section
variable {c : Cx} {n : Nat} {T T' : TS} {tp : Option (List Nat)} {sc sc' : Scp} {ow ow' : List Str} {Γ : Gam} {x : Str} {px pos spos : Pos} {k dep : Nat} {kd : NameKind} {scope : Scope} {elt t iter : PySem.Expr} {ifs : List PySem.Expr} {gens : List Comprehension} {mp : List (Option Nat)} {d : PyData} {out out' : List D}
theorem Tn.cast (h : Tn c n sc ow elt gens scope pos dep t ifs Γ T d out T') (q : out = out') : Tn c n sc ow elt gens scope pos dep t ifs Γ T d out' T' := q ▸ h
theorem Rs.cast (h : Rs c n sc ow elt gens scope pos dep Γ T out T') (q : out = out') : Rs c n sc ow elt gens scope pos dep Γ T out' T' := q ▸ h
end
section
variable {α : Type} {f : α → PyData} {xs : List α}
theorem lay_map (h : ∀ a ∈ xs, (f a).canLay0 = true) : PyData.canLayAll0 (xs.map f) = true := by
  induction xs with
  | nil => rfl
  | cons a xs ih =>
    show ((f a).canLay0 && PyData.canLayAll0 (xs.map f)) = true
    rw [h a (List.mem_cons_self ..), ih fun b m => h b (List.mem_cons_of_mem _ m)]; rfl
theorem depth_map {m : Nat} (h : ∀ a ∈ xs, (f a).depth ≤ m) : PyData.depthAll (xs.map f) ≤ m := by
  induction xs with
  | nil => exact Nat.zero_le _
  | cons a xs ih =>
    show max (f a).depth (PyData.depthAll (xs.map f)) ≤ m
    exact Nat.max_le.mpr ⟨h a (List.mem_cons_self ..), ih fun b q => h b (List.mem_cons_of_mem _ q)⟩
theorem shaped_list (m : Nat) (hm : m < 60) (h : ∀ a ∈ xs, (f a).canLay0 = true ∧ (f a).depth ≤ m) : (PyData.list (xs.map f)).canLay0 = true ∧ (PyData.list (xs.map f)).depth ≤ m + 1 ∧ SeqAt.shaped (.list (xs.map f)) = true := by
  have h1 : (PyData.list (xs.map f)).canLay0 = true := lay_map fun a q => (h a q).1
  have h2 : (PyData.list (xs.map f)).depth ≤ m + 1 := Nat.succ_le_succ (depth_map fun a q => (h a q).2)
  refine ⟨h1, h2, ?_⟩
  show ((PyData.list (xs.map f)).canLay0 && decide ((PyData.list (xs.map f)).depth ≤ 64)) = true
  rw [h1, decide_eq_true (Nat.le_trans h2 (by (first | (simp +arith only; done) | lia | omega)))]; rfl
theorem natD_shaped {w : List Nat} : SeqAt.shaped (.list (natD w)) = true := (shaped_list 0 (by decide) fun _ _ => ⟨rfl, Nat.le_refl _⟩).2.2
end
section
variable {c : Cx} {n : Nat} {T : TS} {tp : Option (List Nat)}
noncomputable def grF (aft : List (List Nat)) : List (List Nat) := aft.zipIdx.map fun p => p.1.filter fun k : Nat => decide ((p.2 : Int) < k)
noncomputable def triP (aft : List (List Nat)) (a c : Nat) : Bool := decide ((a : Int) < c) && (aft[c]!).contains a
noncomputable def triF (aft : List (List Nat)) : List (List Nat) := (List.range 6).flatMap fun a => ((grF aft)[a]!).flatMap fun b => ((aft[b]!).filter fun c => triP aft a c).map fun c => [a, b, c]
noncomputable def fivD (a b d : Nat) : Bool := decide ((a : Int) < d) && ((d : Int) != b)
noncomputable def fivE (aft : List (List Nat)) (a b c e : Nat) : Bool := decide ((a : Int) < e) && ((!([b, c].contains e)) && (aft[e]!).contains a)
noncomputable def fivF (aft : List (List Nat)) : List Int := (List.range 6).flatMap fun a => ((grF aft)[a]!).flatMap fun b => ((aft[b]!).filter fun c : Nat => decide ((a : Int) < c)).flatMap fun c => ((aft[c]!).filter fun d => fivD a b d).flatMap fun d => ((aft[d]!).filter fun e => fivE aft a b c e).map fun _ => 0
noncomputable def twoP (one other : List Nat) : Bool := one.contains 0 && (one.filter fun k => other.contains k).isEmpty
noncomputable def twoF (th : List (List Nat)) : List Int := th.flatMap fun one => (th.filter fun other => twoP one other).map fun _ => 0
noncomputable def dueG (t p d : Nat) : List Int := [6, 15, 20 + 2 * (t : Int), 15 + 6 * (t : Int), 6 + 6 * (t : Int) + 2 * (p : Int), 1 + 2 * (t : Int) + 2 * (p : Int) + 4 * (d : Int)]
noncomputable def dueF (aft : List (List Nat)) : List Int := dueG (triF aft).length (fivF aft).length (twoF (triF aft)).length
theorem RowsOK.gr {aft : List (List Nat)} (R : RowsOK aft) : RowsOK (grF aft) where
  len := by unfold grF; rw [List.length_map, List.length_zipIdx]; exact R.len
  row := fun r hr => by
    obtain ⟨p, hp, rfl⟩ := List.mem_map.mp hr
    exact Nat.le_trans (List.length_filter_le ..) (R.row _ (List.fst_mem_of_mem_zipIdx hp))
  lt := fun r hr x hx => by
    obtain ⟨p, hp, rfl⟩ := List.mem_map.mp hr
    exact R.lt _ (List.fst_mem_of_mem_zipIdx hp) x (List.mem_filter.mp hx).1
theorem filt_len {aft : List (List Nat)} (R : RowsOK aft) {i : Nat} (h : i < 6) (p : Nat → Bool) : ((aft[i]!).filter p).length ≤ 6 := Nat.le_trans (List.length_filter_le ..) (R.row _ (R.at h).2)
theorem RowsOK.el {aft : List (List Nat)} (R : RowsOK aft) {i x : Nat} (h : i < 6) (m : x ∈ aft[i]!) : x < 6 := R.lt _ (R.at h).2 x m
theorem triF_len {aft : List (List Nat)} (R : RowsOK aft) : (triF aft).length ≤ 216 :=
  flat_len (m := 36) fun a ha => Nat.le_trans (flat_len (m := 6) fun b hb => by rw [List.length_map]; exact filt_len R (R.gr.el (List.mem_range.mp ha) hb) _) (Nat.mul_le_mul_right 6 (R.gr.row _ (R.gr.at (List.mem_range.mp ha)).2))
theorem fivF_len {aft : List (List Nat)} (R : RowsOK aft) : (fivF aft).length ≤ 7776 :=
  flat_len (m := 1296) fun a ha => Nat.le_trans (flat_len (m := 216) fun b hb =>
    have hb := R.gr.el (List.mem_range.mp ha) hb
    Nat.le_trans (flat_len (m := 36) fun c hc =>
      have hc := R.el hb (List.mem_filter.mp hc).1
      Nat.le_trans (flat_len (m := 6) fun d hd => by rw [List.length_map]; exact filt_len R (R.el hc (List.mem_filter.mp hd).1) _) (Nat.mul_le_mul_right 6 (filt_len R hc _))) (Nat.mul_le_mul_right 36 (filt_len R hb _))) (Nat.mul_le_mul_right 216 (R.gr.row _ (R.gr.at (List.mem_range.mp ha)).2))
theorem twoF_len {th : List (List Nat)} : (twoF th).length ≤ th.length * th.length := flat_len fun a _ => by rw [List.length_map]; exact List.length_filter_le ..
theorem triF_map {aft : List (List Nat)} : rowsD (triF aft) = (List.range 6).flatMap fun a => ((grF aft)[a]!).flatMap fun b => ((aft[b]!).filter fun c => triP aft a c).map fun c => .list (natD [a, b, c]) := by
  unfold rowsD triF
  simp only [List.map_flatMap, List.map_map]
  rfl
theorem fivF_map {aft : List (List Nat)} : (fivF aft).map PyData.int = (List.range 6).flatMap fun a => ((grF aft)[a]!).flatMap fun b => ((aft[b]!).filter fun c : Nat => decide ((a : Int) < c)).flatMap fun c => ((aft[c]!).filter fun d => fivD a b d).flatMap fun d => ((aft[d]!).filter fun e => fivE aft a b c e).map fun _ => .int 0 := by
  unfold fivF
  simp only [List.map_flatMap, List.map_map]
  rfl
theorem twoF_map {th : List (List Nat)} : (twoF th).map PyData.int = th.flatMap fun one => (th.filter fun other => twoP one other).map fun _ => .int 0 := by
  unfold twoF
  simp only [List.map_flatMap, List.map_map]
  rfl
theorem due_ex (G : Gl c) {aft : List (List Nat)} (R : RowsOK aft) : Ex c n S_due O_due [some (.v (.p (.list (rowsD aft)))), none, none, none, none, none, none] ⟨tp, none⟩ B_due.1 (.ret (.p (.list ((dueF aft).map .int)))) [] ⟨tp, none⟩ := by
  have L : ∀ {l : List (List Nat)}, RowsOK l → l.length ≤ 1000000 := fun R => R.len ▸ by decide
  show Ex _ _ _ _ _ _ (_ :: _) _ _ _
  refine' Ex.cons ?a1 ?b1
  case a1 =>
    refine' X1.assign (T' := ⟨tp, none⟩) (dd := .p (.list (rowsD (grF aft)))) (swC S_due_1) ?e1 S_due_1.hk (Nat.le_of_ble_eq_true (by kernel_rfl)) (.inr ⟨rfl, by simp⟩)
    case e1 =>
      refine Ev.cast (EvO.ev (Comp.mapP (g₁ := fun p : List Nat × Nat => .int p.2) (g₂ := fun p : List Nat × Nat => .list (natD p.1)) (f := fun p : List Nat × Nat => .list (natD (p.1.filter fun k : Nat => decide ((p.2 : Int) < k)))) (xs := aft.zipIdx) (sc' := S_due0) (ow' := O_due0) (mp := M_due0) (by kernel_rfl) (fun _ _ => rfl) (EvI.cast (EvI.enum (GlAt.gn S_due_7 (fx_enum G)) (fun _ _ => rfl) (EvL.cons (Ev.namV S_due_0 rfl) EvL.nil fun _ => rfl)) ?zi) S_due0_1 (.inr ⟨rfl, by simp⟩) rfl S_due0_2 (.inl rfl) rfl (by decide) (fun _ => rfl) (fun p hm => ?f) rfl ?zl)) (by unfold grF rowsD; rw [List.map_map]; rfl)
      case zi => unfold rowsD; rw [List.zipIdx_map, List.map_map]; rfl
      case zl => rw [List.length_zipIdx]; exact L R
      case f =>
        have h6 := R.row _ (List.fst_mem_of_mem_zipIdx hm)
        exact Ev.cast (EvO.ev (Comp.fil (g := fun k : Nat => .int k) (xs := p.1) (p := fun k : Nat => decide ((p.2 : Int) < k)) (f := fun k : Nat => .int k) (sc' := S_due1) (ow' := O_due1) (mp := M_due1) (by kernel_rfl) (fun _ _ => rfl) (EvI.list (Ev.namV S_due0_2 rfl) (.inl fun _ _ => rfl)) S_due1_1 (.inl rfl) rfl (fun k _ => (Tr.cmp (Ev.namV S_due1_1 rfl) (Ev.namV S_due1_2 rfl) Cmp.gt rfl)) (fun k _ _ => (Ev.namV S_due1_1 rfl)) rfl (by (first | (simp +arith only; done) | lia | omega)))) rfl
  refine' Ex.cons ?a2 ?b2
  case a2 =>
    refine' X1.assign (T' := ⟨tp, none⟩) (dd := .p (.list (rowsD (triF aft)))) (swC S_due_2) ?e1 S_due_2.hk (Nat.le_of_ble_eq_true (by kernel_rfl)) (.inr ⟨rfl, by simp⟩)
    case e1 =>
      rw [triF_map]
      refine EvO.ev (Comp.gen (T := ⟨tp, none⟩) (g := fun i : Nat => .int i) (xs := List.range (6 : Int).toNat) (sc' := S_due2) (ow' := O_due2) (mp := M_due2) (by kernel_rfl) rfl (fun _ _ => rfl) (rng1 S_due_8 G (fun _ _ => rfl) (EvL.cons Ev.int EvL.nil fun _ => rfl) (by decide) fun _ _ => rfl) (fun a ha => ?st) rfl ?le)
      case le => exact Nat.le_trans (Nat.le_of_eq ((congrArg List.length (triF_map (aft := aft))).symm.trans (List.length_map ..))) (Nat.le_trans (triF_len R) (by decide))
      case st =>
        have ha := List.mem_range.mp ha
        have a1 := R.gr.at ha
        refine' Tn.cast (Tn.nam S_due2_1 (.inl rfl) (inG_none rfl) (Rs.nextM (g := fun b : Nat => .int b) rfl (hide_set hide_inG) (fun _ _ => rfl) (EvI.list (Ev.item (fun _ _ => rfl) (Ev.namV S_due2_5 rfl) (Ev.namV S_due2_1 rfl) (Sub.listN a1.1 (L R.gr))) (.inl fun _ _ => by exact rfl)) fun b hb => ?st2)) flat_p
        case st2 =>
          have hb := R.gr.el ha hb
          have b1 := R.at hb
          refine' Tn.cast (Tn.nam S_due2_2 (.inl rfl) ⟨rfl, Nat.le_of_ble_eq_true (by kernel_rfl)⟩ (Rs.nextM (g := fun c : Nat => .int c) rfl (hide_set (hide_set hide_inG)) (fun _ _ => rfl) (EvI.list (Ev.item (fun _ _ => rfl) (Ev.namV S_due2_4 rfl) (Ev.namV S_due2_2 rfl) (Sub.listN b1.1 (L R))) (.inl fun _ _ => by exact rfl)) fun c hc => ?st3)) flat_if
          case st3 =>
            have c1 := R.at (R.el hb hc)
            refine' Tn.namIf S_due2_3 (.inl rfl) ⟨rfl, Nat.le_of_ble_eq_true (by kernel_rfl)⟩ (hide_set (hide_set hide_inG)) ?t fun _ => Rs.emit rfl (hide_set (hide_set (hide_set hide_inG))) (Ev.list (EvP.cons (Ev.namV S_due2_1 rfl) (EvP.cons (Ev.namV S_due2_2 rfl) (EvP.cons (Ev.namV S_due2_3 rfl) EvP.nil fun _ => rfl) fun _ => rfl) fun _ => rfl) (Nat.le_of_ble_eq_true (by kernel_rfl)))
            case t => exact Tr.cast (Tr.boolop (TrAll.and' rfl (Tr.cmp (Ev.namV S_due2_3 rfl) (Ev.namV S_due2_1 rfl) Cmp.gt rfl) (TrAll.and' rfl (Tr.cmp (Ev.namV S_due2_1 rfl) (Ev.item (fun _ _ => rfl) (Ev.namV S_due2_4 rfl) (Ev.namV S_due2_3 rfl) (Sub.listN c1.1 (L R))) (Cmp.isIn (by exact natD_lay2)) rfl) TrAll.andNil))) (by rw [natD_any, Bool.and_true]; rfl)
  refine' Ex.cons ?a3 ?b3
  case a3 =>
    refine' X1.usedC (T := ⟨tp, none⟩) (g := fun i : Nat => .int i) (xs := List.range (6 : Int).toNat) (o := fun a => ((grF aft)[a]!).flatMap fun b => ((aft[b]!).filter fun c : Nat => decide ((a : Int) < c)).flatMap fun c => ((aft[c]!).filter fun d => fivD a b d).flatMap fun d => ((aft[d]!).filter fun e => fivE aft a b c e).map fun _ => .int 0) (sc' := S_due3) (ow' := O_due3) (mp := M_due3) ?sw ?cp ?hg ?fs ?hi (fun a ha => ?st) ?hT ?len S_due_4.hk ?hkl ?ho
    case sw => exact swL S_due_4 (by kernel_rfl)
    case hg => rfl
    case cp => kernel_rfl
    case fs => exact fun _ _ => rfl
    case hi => exact (rng1 S_due_8 G (fun _ _ => rfl) (EvL.cons Ev.int EvL.nil fun _ => rfl) (by decide) fun _ _ => rfl)
    case hT => rfl
    case hkl => exact (Nat.le_of_ble_eq_true (by kernel_rfl))
    case ho => exact (.inl rfl)
    case len => exact Nat.le_trans (Nat.le_of_eq ((congrArg List.length (fivF_map (aft := aft))).symm.trans (List.length_map ..))) (Nat.le_trans (fivF_len R) (by decide))
    case st =>
      have ha := List.mem_range.mp ha
      have a1 := R.gr.at ha
      refine' Tn.cast (Tn.nam S_due3_1 (.inl rfl) (inG_none rfl) (Rs.nextM (g := fun b : Nat => .int b) rfl (hide_set hide_inG) (fun _ _ => rfl) (EvI.list (Ev.item (fun _ _ => rfl) (Ev.namV S_due3_7 rfl) (Ev.namV S_due3_1 rfl) (Sub.listN a1.1 (L R.gr))) (.inl fun _ _ => by exact rfl)) fun b hb => ?st2)) flat_p
      case st2 =>
        have hb := R.gr.el ha hb
        have b1 := R.at hb
        refine' Tn.cast (Tn.nam S_due3_2 (.inl rfl) ⟨rfl, Nat.le_of_ble_eq_true (by kernel_rfl)⟩ (Rs.nextM (g := fun c : Nat => .int c) rfl (hide_set (hide_set hide_inG)) (fun _ _ => rfl) (EvI.list (Ev.item (fun _ _ => rfl) (Ev.namV S_due3_6 rfl) (Ev.namV S_due3_2 rfl) (Sub.listN b1.1 (L R))) (.inl fun _ _ => by exact rfl)) fun c hc => ?st3)) flat_ifp
        case st3 =>
          have hc := R.el hb hc
          have c1 := R.at hc
          refine' Tn.namIf S_due3_3 (.inl rfl) ⟨rfl, Nat.le_of_ble_eq_true (by kernel_rfl)⟩ (hide_set (hide_set hide_inG)) (Tr.cmp (Ev.namV S_due3_3 rfl) (Ev.namV S_due3_1 rfl) Cmp.gt rfl) fun _ => Rs.cast (Rs.nextM (g := fun d : Nat => .int d) rfl (hide_set (hide_set (hide_set hide_inG))) (fun _ _ => rfl) (EvI.list (Ev.item (fun _ _ => rfl) (Ev.namV S_due3_6 rfl) (Ev.namV S_due3_3 rfl) (Sub.listN c1.1 (L R))) (.inl fun _ _ => by exact rfl)) fun d hd => ?st4) flat_ifp
          case st4 =>
            have hd := R.el hc hd
            have d1 := R.at hd
            refine' Tn.namIf S_due3_4 (.inl rfl) ⟨rfl, Nat.le_of_ble_eq_true (by kernel_rfl)⟩ (hide_set (hide_set (hide_set hide_inG))) (Tr.cast (Tr.boolop (TrAll.and' rfl (Tr.cmp (Ev.namV S_due3_4 rfl) (Ev.namV S_due3_1 rfl) Cmp.gt rfl) (TrAll.and' rfl (Tr.cmp (Ev.namV S_due3_4 rfl) (Ev.namV S_due3_2 rfl) Cmp.neI rfl) TrAll.andNil))) (by rw [Bool.and_true]; rfl)) fun _ => Rs.cast (Rs.nextM (g := fun e : Nat => .int e) rfl (hide_set (hide_set (hide_set (hide_set hide_inG)))) (fun _ _ => rfl) (EvI.list (Ev.item (fun _ _ => rfl) (Ev.namV S_due3_6 rfl) (Ev.namV S_due3_4 rfl) (Sub.listN d1.1 (L R))) (.inl fun _ _ => by exact rfl)) fun e he => ?st5) flat_if
            case st5 =>
              have e1 := R.at (R.el hd he)
              refine' Tn.namIf S_due3_5 (.inl rfl) ⟨rfl, Nat.le_of_ble_eq_true (by kernel_rfl)⟩ (hide_set (hide_set (hide_set (hide_set hide_inG)))) ?t fun _ => Rs.emit rfl (hide_set (hide_set (hide_set (hide_set (hide_set hide_inG))))) Ev.int
              case t => exact Tr.cast (Tr.boolop (TrAll.and' rfl (Tr.cmp (Ev.namV S_due3_5 rfl) (Ev.namV S_due3_1 rfl) Cmp.gt rfl) (TrAll.and' rfl (Tr.cmp (Ev.namV S_due3_5 rfl) (Ev.list (EvP.cons (Ev.namV S_due3_2 rfl) (EvP.cons (Ev.namV S_due3_3 rfl) EvP.nil fun _ => rfl) fun _ => rfl) (Nat.le_of_ble_eq_true (by kernel_rfl))) (Cmp.notIn (by first | exact natD_lay2 | exact natD_lay2 (w := [b, c]))) rfl) (TrAll.and' rfl (Tr.cmp (Ev.namV S_due3_1 rfl) (Ev.item (fun _ _ => rfl) (Ev.namV S_due3_6 rfl) (Ev.namV S_due3_5 rfl) (Sub.listN e1.1 (L R))) (Cmp.isIn (by first | exact natD_lay2 | exact natD_lay2 (w := [b, c]))) rfl) TrAll.andNil)))) (congrArg (decide ((a : Int) < e) && ·) (congr (congrArg (fun x y => (!x) && y) (natD_any (w := [b, c]))) ((Bool.and_true _).trans natD_any)))
  refine' Ex.cons (X1.assign (fun _ _ => rfl) (Ev.callN S_due_9 (fun _ _ => rfl) (EvL.cons (Ev.namV S_due_2 rfl) EvL.nil fun _ => rfl) (cLenL G ?h1)) S_due_5.hk (Nat.le_of_ble_eq_true (by kernel_rfl)) (.inl rfl)) ?c1
  case h1 => unfold rowsD; rw [List.length_map]; exact Nat.le_trans (triF_len R) (by decide)
  refine' Ex.cons (X1.assign (fun _ _ => rfl) (Ev.callN S_due_9 (fun _ _ => rfl) (EvL.cons (Ev.namV S_due_4 rfl) EvL.nil fun _ => rfl) (cLenL G ?h2)) S_due_6.hk (Nat.le_of_ble_eq_true (by kernel_rfl)) (.inl rfl)) ?c2
  case h2 => exact Nat.le_trans (Nat.le_of_eq ((congrArg List.length (fivF_map (aft := aft))).symm.trans (List.length_map ..))) (Nat.le_trans (fivF_len R) (by decide))
  have h3 : ((triF aft).flatMap fun one => ((triF aft).filter fun other => twoP one other).map fun _ => PyData.int 0).length ≤ 1000000 := Nat.le_trans (Nat.le_of_eq ((congrArg List.length (twoF_map (th := triF aft))).symm.trans (List.length_map ..))) (Nat.le_trans twoF_len (Nat.le_trans (Nat.mul_le_mul (triF_len R) (triF_len R)) (by decide)))
  have w3 : ∀ one ∈ triF aft, one.length = 3 := fun one m => by
    obtain ⟨a, _, m⟩ := List.mem_flatMap.mp m
    obtain ⟨b, _, m⟩ := List.mem_flatMap.mp m
    obtain ⟨c, _, rfl⟩ := List.mem_map.mp m
    rfl
  refine' Ex.cons (X1.assign (fun _ _ => rfl) (Ev.callN S_due_9 (fun _ _ => rfl) (EvL.cons (EvO.ev ?cm) EvL.nil fun _ => rfl) (cLenL G h3)) S_due_3.hk (Nat.le_of_ble_eq_true (by kernel_rfl)) (.inl rfl)) ?c3
  case cm =>
    refine' Comp.gen (T := ⟨tp, none⟩) (g := fun one : List Nat => .list (natD one)) (xs := triF aft) (sc' := S_due4) (ow' := O_due4) (mp := M_due4) (by kernel_rfl) rfl (fun _ _ => rfl) (EvI.list (Ev.namV S_due_2 rfl) (.inl fun _ _ => rfl)) (fun one ho => ?st) rfl h3
    case st =>
      refine' Tn.cast (Tn.nam S_due4_1 (.inl rfl) (inG_none rfl) (Rs.nextM (g := fun other : List Nat => .list (natD other)) rfl (hide_set hide_inG) (fun _ _ => rfl) (EvI.list (Ev.namV S_due4_3 rfl) (.inl fun _ _ => by exact rfl)) fun other hr => ?st2)) flat_if
      case st2 =>
        refine' Tn.namIf S_due4_2 (.inr ⟨rfl, by simp⟩) ⟨rfl, Nat.le_of_ble_eq_true (by kernel_rfl)⟩ (hide_set hide_inG) ?t fun _ => Rs.emit rfl (hide_set (hide_set hide_inG)) Ev.int
        case t =>
          have hl := w3 one ho
          refine' Tr.cast (Tr.boolop (TrAll.and' (t := one.contains 0) rfl ?t1 (TrAll.and' (t := (one.filter fun k => other.contains k).isEmpty) rfl ?t2 TrAll.andNil))) (congrArg (one.contains 0 && ·) (Bool.and_true _))
          case t1 => exact Tr.cast (Tr.cmp Ev.int (Ev.namV S_due4_1 rfl) (Cmp.isIn (by exact natD_lay2 (k := 0))) rfl) (natD_any (k := 0))
          case t2 =>
            refine Tr.cast (Tr.cmp (Ev.cast (d₁ := .list (natD (one.filter fun k => other.contains k))) (EvO.ev (Comp.fil (g := fun k : Nat => .int k) (xs := one) (p := fun k => other.contains k) (f := fun k : Nat => .int k) (sc' := S_due5) (ow' := O_due5) (mp := M_due5) (by kernel_rfl) (fun _ _ => rfl) (EvI.list (Ev.namV S_due4_1 rfl) (.inl fun _ _ => rfl)) S_due5_1 (.inl rfl) rfl (fun k _ => Tr.cast (Tr.cmp (Ev.namV S_due5_1 rfl) (Ev.namV S_due5_2 rfl) (Cmp.isIn (by exact natD_lay2)) rfl) natD_any) (fun k _ _ => (Ev.namV S_due5_1 rfl)) rfl (by (first | (simp +arith only; done) | lia | omega)))) rfl) (Ev.list EvP.nil (by decide)) (Cmp.eqP (by rw [natD_shaped]; exact natD_shaped (w := []))) rfl) ?q
            generalize one.filter (fun k => other.contains k) = l
            cases l <;> rfl
  refine' Ex.stop (X1.ret (Ev.cast (Ev.list (EvP.cons Ev.int (EvP.cons Ev.int (EvP.cons (Ev.bin Ev.int (Ev.bin Ev.int (Ev.namV S_due_5 rfl) (Bin.mul (by first | assumption | decide | (first | (simp +arith only; done) | lia | omega)))) Bin.add) (EvP.cons (Ev.bin Ev.int (Ev.bin Ev.int (Ev.namV S_due_5 rfl) (Bin.mul (by first | assumption | decide | (first | (simp +arith only; done) | lia | omega)))) Bin.add) (EvP.cons (Ev.bin (Ev.bin Ev.int (Ev.bin Ev.int (Ev.namV S_due_5 rfl) (Bin.mul (by first | assumption | decide | (first | (simp +arith only; done) | lia | omega)))) Bin.add) (Ev.bin Ev.int (Ev.namV S_due_6 rfl) (Bin.mul (by first | assumption | decide | (first | (simp +arith only; done) | lia | omega)))) Bin.add) (EvP.cons (Ev.bin (Ev.bin (Ev.bin Ev.int (Ev.bin Ev.int (Ev.namV S_due_5 rfl) (Bin.mul (by first | assumption | decide | (first | (simp +arith only; done) | lia | omega)))) Bin.add) (Ev.bin Ev.int (Ev.namV S_due_6 rfl) (Bin.mul (by first | assumption | decide | (first | (simp +arith only; done) | lia | omega)))) Bin.add) (Ev.bin Ev.int (Ev.namV S_due_3 rfl) (Bin.mul (by first | assumption | decide | (first | (simp +arith only; done) | lia | omega)))) Bin.add) EvP.nil fun _ => rfl) fun _ => rfl) fun _ => rfl) fun _ => rfl) fun _ => rfl) fun _ => rfl) (Nat.le_of_ble_eq_true (by kernel_rfl))) ?e)) Fl.noConfusion
  case e =>
    have p1 : (rowsD (triF aft)).length = (triF aft).length := List.length_map ..
    exact congrArg (fun l : List Int => PyData.list (l.map .int)) (congr (congr (congrArg dueG p1) ((congrArg List.length (fivF_map (aft := aft))).symm.trans (List.length_map ..))) ((congrArg List.length (twoF_map (th := triF aft))).symm.trans (List.length_map ..)))
end
end
noncomputable section
open PySem PySem.W PyProof.Rows PyProof.Rows.LSm PySem.Spec PyProof.V PySem.Calls
section
variable {c : Cx} {n : Nat} {T : TS} {tp : Option (List Nat)}
theorem bitOr_nat (m k : Nat) : Builtin.bitOr (m : Int) k = ((m ||| k : Nat) : Int) := by
  have e : ∀ m : Nat, Builtin.bitNot (m : Int) = Int.negSucc m := fun m => by show -(m : Int) - 1 = _; (first | (simp +arith only; done) | lia | omega)
  have e2 : ∀ m : Nat, Builtin.bitNot (Int.negSucc m) = (m : Int) := fun m => by show -(Int.negSucc m) - 1 = _; (first | (simp +arith only; done) | lia | omega)
  unfold Builtin.bitOr
  rw [e, e]
  show Builtin.bitNot (Builtin.bitNot (((Builtin.bitNot (Int.negSucc m)).toNat ||| (Builtin.bitNot (Int.negSucc k)).toNat : Nat) : Int)) = _
  rw [e, e2, e2, e2, Int.toNat_natCast, Int.toNat_natCast]
theorem xor_bd {m k N : Nat} (hm : m < 2 ^ N) (hk : k < 2 ^ N) : 0 ≤ Builtin.bitXor (m : Int) k ∧ Builtin.bitXor (m : Int) k < 2 ^ N := by
  have h1 : m ||| k < 2 ^ N := Nat.or_lt_two_pow hm hk
  have h2 : m &&& k ≤ m := Nat.and_le_left
  have h3 : m ≤ m ||| k := Nat.left_le_or
  have e : Builtin.bitXor (m : Int) k = ((m ||| k : Nat) : Int) - ((m &&& k : Nat) : Int) := by unfold Builtin.bitXor; rw [bitOr_nat]; rfl
  have h4 : ((2 ^ N : Nat) : Int) = 2 ^ N := by simp
  rw [e, ← h4]
  (first | (simp +arith only; done) | lia | omega)
theorem hex_size {z : Int} (h : 0 ≤ z ∧ z < 2 ^ 34) : (baseText "0x" 16 z).length ≤ sizeLine := by
  have h1 : (Nat.toDigits 16 z.natAbs).length ≤ 10 := toDigits_len_pow (by decide) (by decide) (by (first | (simp +arith only; done) | lia | omega))
  rw [baseText_nonneg h.1, Str.length_append, Str.length_append, PySem.ofString_length, PySem.ofString_length, PySem.ofString_length, sizeLine_eq]
  have : "".length = 0 := rfl
  have : (String.ofList (Nat.toDigits 16 z.natAbs)).length = (Nat.toDigits 16 z.natAbs).length := String.length_ofList
  have : "0x".length = 2 := rfl
  (first | (simp +arith only; done) | lia | omega)
noncomputable def isStr : PyData → Bool
  | .str _ => true
  | _ => false
theorem isStr_of {d : PyData} (h : isStr d = true) : d = .str (strOf d) := by cases d <;> first | rfl | cases h
theorem flag_names : ∀ q < 32, isStr ((lookup (.int (flagI q)) flagTab).getD (.str (baseText "0x" 16 (flagI q)))) = true ∧ 0 ≤ flagI q ∧ flagI q < 2 ^ 34 := by decide +kernel
theorem flags_c (G : Gl c) {z : Int} (hz : 0 ≤ z ∧ z < 2 ^ 34) (hj : ((pfGo flagTab (List.range 32) z []).map (·.length)).sum + (pfGo flagTab (List.range 32) z []).length * (", " : Str).length ≤ 16777216) : CallN c (n + 1) "pretty_flags" [.p (.int z)] ⟨tp, none⟩ (.p (.str (Txt.join ", " (pfGo flagTab (List.range 32) z [])))) ⟨tp, none⟩ := by
  obtain ⟨D, hv, ht⟩ := G.t.fl
  refine Ex.fn (k := 3) (flags_ex G hv ht (fun q hq => ⟨isStr_of (flag_names q hq).1, hex_size (flag_names q hq).2⟩) (fun z => 0 ≤ z ∧ z < 2 ^ 34) (fun z q hq hz => ?i) (fun z h => hex_size h) hz hj) G.f.f_flags (by kernel_rfl) rfl rfl (.inl rfl) tt
  have hf := (flag_names q hq).2
  have e1 : z = (z.toNat : Int) := by (first | (simp +arith only; done) | lia | omega)
  have e2 : flagI q = ((flagI q).toNat : Int) := by (first | (simp +arith only; done) | lia | omega)
  rw [e1, e2]
  exact xor_bd (N := 34) (by (first | (simp +arith only; done) | lia | omega)) (by (first | (simp +arith only; done) | lia | omega))
end
section
variable {c : Cx} {n : Nat} {T : TS} {tp : Option (List Nat)}
structure GlW (c : Cx) : Prop where
  m_wit : MethAt c "not_equal_witness" B_witness.1 S_witness ["self", "other"]
  f_column : FnAt c "_law_column" B_column.1 S_column ["lead", "size"]
  f_parted : FnAt c "_law_parted" B_parted.1 S_parted ["leads", "pairs"]
  f_chart : FnAt c "_law_chart" B_chart.1 S_chart ["pairs", "reports", "firsts"]
  f_names : FnAt c "_law_names" B_names.1 S_names ["base"]
  f_ways : FnAt c "_law_ways" B_ways.1 S_ways ["after"]
  f_due : FnAt c "_law_due" B_due.1 S_due ["after"]
theorem parted_c (G : Gl c) (W : GlW c) {xs : List Str} {ps : List (Nat × Nat)} (hx : ∀ x ∈ xs, LeadOK x) (hp : ∀ p ∈ ps, p.1 < xs.length ∧ p.2 < xs.length) (hl : xs.length ≤ 1000) (hl' : ps.length ≤ 1000) : CallN c (n + 2) "_law_parted" [.p (.list (xs.map .str)), .p (.list (ps.map pairD))] ⟨tp, none⟩ (.p (.list (ps.map fun p => .list ((partF xs[p.1]! xs[p.2]!).map tup3)))) ⟨tp, none⟩ :=
  (parted_ex G W.f_column hx hp hl hl').fn (k := 2) W.f_parted (by kernel_rfl) rfl rfl (.inl rfl) tt
theorem chart_c (G : Gl c) (W : GlW c) {ps : List (Nat × Nat)} {rs : List (List T3)} {fs : List Bool} (hp : ps.length = 15 ∧ ∀ p ∈ ps, p.1 < 6 ∧ p.2 < 6) (hr : rs.length = 15 ∧ ∀ r ∈ rs, r.length ≤ 1000) (hf : fs.length = 15) : CallN c (n + 1) "_law_chart" [.p (.list (ps.map pairD)), .p (.list (rs.map fun r => .list (r.map tup3))), .p (.list (fs.map .bool))] ⟨tp, none⟩ (.p (.list (rowsD (chartF ps rs fs)))) ⟨tp, none⟩ := by
  refine CallN.fn (fl := .ret (.p (.list (rowsD (chartF ps rs fs))))) (Γ' := []) W.f_chart (ScOK.of (ow := []) ?q1) ?q2 (Ex.gro (Γ := [some (.v (.p (.list (ps.map pairD)))), some (.v (.p (.list (rs.map fun r => .list (r.map tup3))))), some (.v (.p (.list (fs.map .bool)))), none, none, none, none, none]) ?q5 ?q6) ?q3 tt
  case q1 => kernel_rfl
  case q2 => rfl
  case q3 => exact .inl rfl
  case q5 => exact @chart_ex c n tp G ps rs fs hp hr hf
  case q6 => exact le_fn (k := 5) (ds := [.p (.list (ps.map pairD)), .p (.list (rs.map fun r => .list (r.map tup3))), .p (.list (fs.map .bool))])
theorem names_c (G : Gl c) (W : GlW c) {b : Int} (hb : 0 ≤ b ∧ b ≤ 100) : CallN c (n + 1) "_law_names" [.p (.int b)] ⟨tp, none⟩ (.p (.list (((List.range 6).map fun q : Nat => nameF (b + q)).map .str))) ⟨tp, none⟩ :=
  Ex.fn (k := 1) (ds := [.p (.int b)]) (fl := .ret (.p (.list (((List.range 6).map fun q : Nat => nameF (b + q)).map .str)))) (names_ex G hb) W.f_names (by kernel_rfl) rfl rfl (.inl rfl) tt
theorem ways_c (G : Gl c) (W : GlW c) {aft : List (List Nat)} (R : RowsOK aft) : CallN c (n + 1) "_law_ways" [.p (.list (rowsD aft))] ⟨tp, none⟩ (.p (.list ((waysF aft).map .int))) ⟨tp, none⟩ :=
  (ways_ex G R).fn (k := 3) W.f_ways (by kernel_rfl) rfl rfl (.inl rfl) tt
theorem due_c (G : Gl c) (W : GlW c) {aft : List (List Nat)} (R : RowsOK aft) : CallN c (n + 1) "_law_due" [.p (.list (rowsD aft))] ⟨tp, none⟩ (.p (.list ((dueF aft).map .int))) ⟨tp, none⟩ :=
  (due_ex G R).fn (k := 6) W.f_due (by kernel_rfl) rfl rfl (.inl rfl) tt
end
end
noncomputable section
open PySem PySem.W PyProof.Rows PyProof.Rows.LSm PySem.Spec PyProof.V PySem.Calls
section
variable {c : Cx} {n : Nat} {T : TS} {tp : Option (List Nat)}
noncomputable def tailL : List Str := ["", "\t", "\t ", " "]
noncomputable def leadG (a b k : Int) : Str := Txt.mul " " a ++ "\t" ++ Txt.mul " " b ++ tailL[k.toNat]!
noncomputable def leadF (x : Int) : Str := leadG (x.fmod 3) ((x.fdiv 3).fmod 3) ((x.fdiv 9).fmod 4)
noncomputable def baseF (ns : List Int) : Int := ns.sum.fmod 28
noncomputable def placeF (ns : List Int) (i : Nat) : Int := ((ns[i]!).fdiv 36).fmod 8 * 6 + ((i : Int) + ns.sum.fdiv 27).fmod 6
noncomputable def leadsF (ns : List Int) : List Str := ns.map leadF
noncomputable def rowF (ns : List Int) (i : Nat) : Str := (leadsF ns)[i]! ++ signsL[(placeF ns i).toNat]!
noncomputable def rowsF (ns : List Int) : List Str := (List.range 6).map (rowF ns)
noncomputable def pairsL : List (Nat × Nat) := (List.range 6).flatMap fun i => (List.range (6 - (i + 1))).map fun q => (i, i + 1 + q)
theorem mod3 {x : Int} : 0 ≤ x.fmod 3 ∧ x.fmod 3 < 3 := by
  rw [Int.fmod_eq_emod_of_nonneg _ (by decide)]
  (first | (simp +arith only; done) | lia | omega)
theorem mod4 {x : Int} : 0 ≤ x.fmod 4 ∧ x.fmod 4 < 4 := by
  rw [Int.fmod_eq_emod_of_nonneg _ (by decide)]
  (first | (simp +arith only; done) | lia | omega)
theorem pl8 {x : Int} : (x.fmod 8).natAbs < 2 ^ 64 := by
  rw [Int.fmod_eq_emod_of_nonneg _ (by decide)]
  (first | (simp +arith only; done) | lia | omega)
theorem mul3 {k : Int} (h : 0 ≤ k ∧ k < 3) : (Txt.mul " " k).length ≤ 100 := by
  have : ∀ i : Fin 3, (Txt.mul " " (i : Nat)).length ≤ 100 := by decide +kernel
  exact Int.toNat_of_nonneg h.1 ▸ this ⟨k.toNat, by omega⟩
theorem s_tab : ("\t" : Str).length = 1 := by decide +kernel
theorem s_blank : (" " : Str).length = 1 := by decide +kernel
theorem tail_len {k : Nat} (h : k < 4) : (tailL[k]!).length ≤ 2 := by
  have : ∀ i : Fin 4, (tailL[i.val]!).length ≤ 2 := by decide +kernel
  exact this ⟨k, h⟩
theorem leadz {a b k : Int} (ha : 0 ≤ a ∧ a < 3) (hb : 0 ≤ b ∧ b < 3) (hk : 0 ≤ k ∧ k < 4) : ((" " : Str).length ≤ 1000 ∧ 0 ≤ a ∧ a ≤ 1000) ∧ ((" " : Str).length ≤ 1000 ∧ 0 ≤ b ∧ b ≤ 1000) ∧ (Txt.mul " " a).length + ("\t" : Str).length ≤ 1000000 ∧ (Txt.mul " " a ++ "\t" : Str).length + (Txt.mul " " b).length ≤ 1000000 ∧ (Txt.mul " " a ++ "\t" ++ Txt.mul " " b : Str).length + (tailL[k.toNat]!).length ≤ 1000000 ∧ (0 ≤ k ∧ k.toNat < tailL.length ∧ tailL.length ≤ 1000000) :=
  have h1 := mul3 ha
  have h2 := mul3 hb
  have h3 := tail_len (k := k.toNat) ((Int.toNat_lt hk.1).mpr hk.2)
  have l1 : (Txt.mul " " a ++ "\t" : Str).length ≤ 100 + 1 := Nat.le_trans (Nat.le_of_eq (Str.length_append ..)) (Nat.add_le_add h1 (Nat.le_of_eq s_tab))
  have l2 : (Txt.mul " " a ++ "\t" ++ Txt.mul " " b : Str).length ≤ 100 + 1 + 100 := Nat.le_trans (Nat.le_of_eq (Str.length_append ..)) (Nat.add_le_add l1 h2)
  have hb' : (" " : Str).length ≤ 1000 := Nat.le_trans (Nat.le_of_eq s_blank) (by decide)
  ⟨⟨hb', ha.1, Int.le_trans (Int.le_of_lt ha.2) (by decide)⟩, ⟨hb', hb.1, Int.le_trans (Int.le_of_lt hb.2) (by decide)⟩, Nat.le_trans (Nat.add_le_add h1 (Nat.le_of_eq s_tab)) (by decide), Nat.le_trans (Nat.add_le_add l1 h2) (by decide), Nat.le_trans (Nat.add_le_add l2 h3) (by decide), hk.1, (Int.toNat_lt hk.1).mpr hk.2, show 4 ≤ 1000000 by decide⟩
theorem place_bd {ns : List Int} {i : Nat} : 0 ≤ placeF ns i ∧ placeF ns i < 48 := by
  unfold placeF
  rw [Int.fmod_eq_emod_of_nonneg _ (by decide), Int.fmod_eq_emod_of_nonneg _ (by decide)]
  (first | (simp +arith only; done) | lia | omega)
theorem signsL_len : signsL.length = 48 := by decide +kernel
theorem sign_len {k : Nat} (h : k < 48) : (signsL[k]!).length ≤ 100 := by
  have : ∀ i : Fin 48, (signsL[i.val]!).length ≤ 100 := by decide +kernel
  exact this ⟨k, h⟩
theorem leadF_len {x : Int} : (leadF x).length ≤ 300 := by
  have h1 := mul3 (mod3 (x := x))
  have h2 := mul3 (mod3 (x := x.fdiv 3))
  have h3 := tail_len (k := ((x.fdiv 9).fmod 4).toNat) (by have := mod4 (x := x.fdiv 9); generalize (x.fdiv 9).fmod 4 = z at *; (first | (simp +arith only; done) | lia | omega))
  unfold leadF leadG
  rw [Str.length_append, Str.length_append, Str.length_append, s_tab]
  generalize (Txt.mul " " (x.fmod 3)).length = u at *
  generalize (Txt.mul " " ((x.fdiv 3).fmod 3)).length = v at *
  generalize (tailL[((x.fdiv 9).fmod 4).toNat]!).length = w at *
  (first | (simp +arith only; done) | lia | omega)
theorem leads_len {ns : List Int} {i : Nat} : ((leadsF ns)[i]!).length ≤ 300 := by
  unfold leadsF
  by_cases h : i < (ns.map leadF).length
  · rw [getElem!_pos _ i h, List.getElem_map]
    exact leadF_len
  · rw [getElem!_neg _ i h]
    exact Nat.zero_le _
theorem law_a (G : Gl c) (W : GlW c) {xs ns : List Int} (hx : xs.length ≤ 63) (hn : xs.zipIdx.foldl (numS 6) [146, 6, 81, 208, 43, 1845] = ns) (hl : ns.length = 6) : Ex c (n + 5) S_law O_law [some (.v (.p (.list (xs.map .int)))), none, none, none, none, none, none, none, none, none, none, none, none, none, none, none, none, none, none] ⟨none, none⟩ (B_law.1.take 6) .next
    [some (.v (.p (.list (xs.map .int)))), some (.v (.p (.list (ns.map .int)))), some (.v (.p (.int (baseF ns)))), some (.v (.p (.list ((leadsF ns).map .str)))), some (.v (.p (.list (((List.range 6).map (placeF ns)).map .int)))), some (.v (.p (.list ((rowsF ns).map .str)))), some (.v (.p (.list (pairsL.map pairD)))), none, none, none, none, none, none, none, none, none, none, none, none] ⟨none, none⟩ := by
  show Ex _ _ _ _ _ _ (_ :: _) _ _ _
  refine' Ex.cons ?a1 ?b1
  case a1 =>
    refine' X1.assign (T' := ⟨none, none⟩) (dd := .p (.list (ns.map .int))) (fun _ _ => rfl) ?e1 S_law_1.hk (Nat.le_of_ble_eq_true (by kernel_rfl)) (.inr ⟨rfl, by simp⟩)
    case e1 => exact hn ▸ (Ev.callN S_law_19 (fun _ _ => rfl) (EvL.cons (Ev.namV S_law_0 rfl) EvL.nil fun _ => rfl) (numbers_c G hx))
  refine' Ex.cons ?a2 ?b2
  case a2 =>
    refine' X1.assign (T' := ⟨none, none⟩) (dd := .p (.int (baseF ns))) (fun _ _ => rfl) ?e1 S_law_2.hk (Nat.le_of_ble_eq_true (by kernel_rfl)) (.inr ⟨rfl, by simp⟩)
    case e1 => exact (Ev.bin (Ev.callN S_law_20 (fun _ _ => rfl) (EvL.cons (Ev.namV S_law_1 rfl) EvL.nil fun _ => rfl) (cSum G)) Ev.int (Bin.mod (by decide)))
  refine' Ex.cons ?a3 ?b3
  case a3 =>
    refine' X1.assign (T' := ⟨none, none⟩) (dd := .p (.list ((leadsF ns).map .str))) (swC S_law_3) ?e1 S_law_3.hk (Nat.le_of_ble_eq_true (by kernel_rfl)) (.inr ⟨rfl, by simp⟩)
    case e1 =>
      refine Ev.cast (EvO.ev (Comp.map (g := .int) (xs := ns) (f := fun x => .str (leadF x)) (sc' := S_law0) (ow' := O_law0) (mp := M_law0) (by kernel_rfl) (fun _ _ => rfl) (EvI.list (Ev.namV S_law_1 rfl) (.inl fun _ _ => rfl)) S_law0_1 (.inl rfl) rfl (fun x _ => ?f) rfl (by (first | (simp +arith only; done) | lia | omega)))) (by unfold leadsF; rw [List.map_map]; rfl)
      case f =>
        obtain ⟨z1, z2, z3, z4, z5, z6⟩ := leadz (mod3 (x := x)) (mod3 (x := x.fdiv 3)) (mod4 (x := x.fdiv 9))
        unfold leadF leadG
        exact Ev.bin (Ev.bin (Ev.bin (Ev.bin Ev.str (Ev.bin (Ev.namV S_law0_1 rfl) Ev.int (Bin.mod (by decide))) (Bin.mulS z1)) Ev.str (Bin.addS z3)) (Ev.bin Ev.str (Ev.bin (Ev.bin (Ev.namV S_law0_1 rfl) Ev.int (Bin.fdiv (by decide))) Ev.int (Bin.mod (by decide))) (Bin.mulS z2)) (Bin.addS z4)) (Ev.item (fun _ _ => rfl) (Ev.cast (d₁ := .list (tailL.map .str)) (Ev.list (EvP.cons Ev.str (EvP.cons Ev.str (EvP.cons Ev.str (EvP.cons Ev.str EvP.nil fun _ => rfl) fun _ => rfl) fun _ => rfl) fun _ => rfl) (Nat.le_of_ble_eq_true (by kernel_rfl))) rfl) (Ev.bin (Ev.bin (Ev.namV S_law0_1 rfl) Ev.int (Bin.fdiv (by decide))) Ev.int (Bin.mod (by decide))) (Sub.listD z6)) (Bin.addS z5)
  have nat : ∀ i ∈ List.range 6, ns[i]? = some ns[i]! := fun i m => by
    have h : i < ns.length := hl ▸ List.mem_range.mp m
    rw [List.getElem?_eq_getElem h, getElem!_pos ns i h]
  have nl : ns.length ≤ 1000000 := by (first | (simp +arith only; done) | lia | omega)
  refine' Ex.cons ?a4 ?b4
  case a4 =>
    refine' X1.assign (T' := ⟨none, none⟩) (dd := .p (.list (((List.range 6).map (placeF ns)).map .int))) (swC S_law_4) ?e1 S_law_4.hk (Nat.le_of_ble_eq_true (by kernel_rfl)) (.inr ⟨rfl, by simp⟩)
    case e1 =>
      refine Ev.cast (EvO.ev (Comp.map (g := fun i : Nat => .int i) (xs := List.range (6 : Int).toNat) (f := fun i : Nat => .int (placeF ns i)) (sc' := S_law1) (ow' := O_law1) (mp := M_law1) (by kernel_rfl) (fun _ _ => rfl) (rng1 S_law_21 G (fun _ _ => rfl) (EvL.cons Ev.int EvL.nil fun _ => rfl) (by decide) fun _ _ => rfl) S_law1_1 (.inl rfl) rfl (fun i hi => ?f) rfl (by decide))) (by rw [List.map_map]; rfl)
      case f => exact (Ev.bin (Ev.bin (Ev.bin (Ev.bin (Ev.item (fun _ _ => rfl) (Ev.namV S_law1_3 rfl) (Ev.namV S_law1_1 rfl) (Sub.listN (nat i hi) nl)) Ev.int (Bin.fdiv (by first | exact pl8 | decide))) Ev.int (Bin.mod (by first | exact pl8 | decide))) Ev.int (Bin.mul (by first | exact pl8 | decide))) (Ev.bin (Ev.bin (Ev.namV S_law1_1 rfl) (Ev.bin (Ev.callN S_law1_2 (fun _ _ => rfl) (EvL.cons (Ev.namV S_law1_3 rfl) EvL.nil fun _ => rfl) (cSum G)) Ev.int (Bin.fdiv (by first | exact pl8 | decide))) Bin.add) Ev.int (Bin.mod (by first | exact pl8 | decide))) Bin.add)
  refine' Ex.cons ?a5 ?b5
  case a5 =>
    refine' X1.assign (T' := ⟨none, none⟩) (dd := .p (.list ((rowsF ns).map .str))) (swC S_law_5) ?e1 S_law_5.hk (Nat.le_of_ble_eq_true (by kernel_rfl)) (.inr ⟨rfl, by simp⟩)
    case e1 =>
      refine Ev.cast (EvO.ev (Comp.map (g := fun i : Nat => .int i) (xs := List.range (6 : Int).toNat) (f := fun i : Nat => .str (rowF ns i)) (sc' := S_law2) (ow' := O_law2) (mp := M_law2) (by kernel_rfl) (fun _ _ => rfl) (rng1 S_law_21 G (fun _ _ => rfl) (EvL.cons Ev.int EvL.nil fun _ => rfl) (by decide) fun _ _ => rfl) S_law2_1 (.inl rfl) rfl (fun i hi => ?f) rfl (by decide))) (by unfold rowsF; rw [List.map_map]; rfl)
      case f =>
        have h1 : (leadsF ns)[i]? = some (leadsF ns)[i]! := by
          have h : i < (leadsF ns).length := by unfold leadsF; rw [List.length_map, hl]; exact List.mem_range.mp hi
          rw [List.getElem?_eq_getElem h, getElem!_pos _ i h]
        have h2 : ((List.range 6).map (placeF ns))[i]? = some (placeF ns i) := by rw [List.getElem?_map, List.getElem?_range (show i < 6 from List.mem_range.mp hi)]; rfl
        have h3 : (leadsF ns).length ≤ 1000000 := by unfold leadsF; rw [List.length_map]; (first | (simp +arith only; done) | lia | omega)
        have h4 : ((List.range 6).map (placeF ns)).length ≤ 1000000 := by rw [List.length_map, List.length_range]; decide
        have h5 := place_bd (ns := ns) (i := i)
        have h6 : 0 ≤ placeF ns i ∧ (placeF ns i).toNat < signsL.length ∧ signsL.length ≤ 1000000 := by rw [signsL_len]; (first | (simp +arith only; done) | lia | omega)
        have h7 : ((leadsF ns)[i]!).length + (signsL[(placeF ns i).toNat]!).length ≤ 1000000 := by
          have := leads_len (ns := ns) (i := i)
          have := sign_len (k := (placeF ns i).toNat) (by (first | (simp +arith only; done) | lia | omega))
          (first | (simp +arith only; done) | lia | omega)
        unfold rowF
        exact Ev.bin (Ev.item (fun _ _ => rfl) (Ev.namV S_law2_3 rfl) (Ev.namV S_law2_1 rfl) (Sub.listN h1 h3)) (Ev.item (fun _ _ => rfl) (Ev.callN S_law2_2 (fun _ _ => rfl) EvL.nil (signs_c G)) (Ev.item (fun _ _ => rfl) (Ev.namV S_law2_4 rfl) (Ev.namV S_law2_1 rfl) (Sub.listN h2 h4)) (Sub.listD h6)) (Bin.addS h7)
  refine' Ex.cons ?a6 Ex.nil
  case a6 =>
    have e : pairsL.map pairD = (List.range 6).flatMap fun i => (List.range (6 - (i + 1))).map fun q => pairD (i, i + 1 + q) := by
      unfold pairsL
      simp only [List.map_flatMap, List.map_map]
      rfl
    rw [e]
    refine' X1.usedC (T := ⟨none, none⟩) (g := fun i : Nat => .int i) (xs := List.range (6 : Int).toNat) (o := fun i => (List.range (6 - (i + 1))).map fun q => pairD (i, i + 1 + q)) (sc' := S_law3) (ow' := O_law3) (mp := M_law3) ?sw ?cp ?hg ?fs ?hi (fun a ha => ?st) ?hT ?len S_law_6.hk ?hkl ?ho
    case sw => exact swL S_law_6 (by kernel_rfl)
    case hg => rfl
    case cp => kernel_rfl
    case fs => exact fun _ _ => rfl
    case hi => exact (rng1 S_law_21 G (fun _ _ => rfl) (EvL.cons Ev.int EvL.nil fun _ => rfl) (by decide) fun _ _ => rfl)
    case hT => rfl
    case hkl => exact (Nat.le_of_ble_eq_true (by kernel_rfl))
    case ho => exact (.inl rfl)
    case len => exact Nat.le_of_ble_eq_true (by kernel_rfl)
    case st =>
      have ha : a < 6 := List.mem_range.mp ha
      refine' Tn.cast (Tn.nam S_law3_1 (.inl rfl) (inG_none rfl) (Rs.nextM (g := fun q : Nat => .int (a + 1 + q)) (xs := List.range (6 - (a + 1))) (o := fun q : Nat => [D.p (pairD (a, a + 1 + q))]) rfl (hide_set hide_inG) (fun _ _ => rfl) (EvI.cast (rng2 (a := (a : Int) + 1) (b := 6) S_law3_3 G (fun _ _ => rfl) (EvL.cons (Ev.bin (Ev.namV S_law3_1 rfl) Ev.int Bin.add) (EvL.cons Ev.int EvL.nil fun _ => rfl) fun _ => rfl) (by (first | (simp +arith only; done) | lia | omega)) fun _ _ => by exact rfl) ?z) fun q hq => ?st2)) flat_one
      case z => rw [show ((6 : Int) - ((a : Int) + 1)).toNat = 6 - (a + 1) by (first | (simp +arith only; done) | lia | omega)]
      case st2 => exact Tn.nam S_law3_2 (.inl rfl) ⟨rfl, Nat.le_of_ble_eq_true (by kernel_rfl)⟩ (Rs.emit rfl (hide_set (hide_set hide_inG)) (Ev.tup (EvP.cons (Ev.namV S_law3_1 rfl) (EvP.cons (Ev.namV S_law3_2 rfl) EvP.nil fun _ => rfl) fun _ => rfl) (Nat.le_of_ble_eq_true (by kernel_rfl))))
end
end
noncomputable section
open PySem PySem.W PyProof.Rows PyProof.Rows.LSm PySem.Spec PyProof.V PySem.Calls
section
variable {c : Cx} {n : Nat} {T : TS} {tp : Option (List Nat)}
theorem flat_ws {α : Type} {f : α → Flds} {xs : List α} : xs.flatMap (fun a => [D.ws (f a)]) = (xs.map f).map .ws := by
  induction xs with
  | nil => rfl
  | cons a xs ih => rw [List.flatMap_cons, ih]; rfl
theorem flat_single {α β : Type} {f : α → β} {xs : List α} : xs.flatMap (fun a => [f a]) = xs.map f := by
  induction xs with
  | nil => rfl
  | cons a xs ih => rw [List.flatMap_cons, ih]; rfl
theorem Sub.wslN {α : Type} {f : α → Flds} {xs : List α} {k : Nat} {z : α} (h : xs[k]? = some z) (hl : xs.length ≤ 1000000) : Sub c n (.wsl (xs.map f)) (.p (.int k)) (.ws (f z)) :=
  Sub.wsl (Int.natCast_nonneg _) (by rw [Int.toNat_natCast, List.getElem?_map, h]; rfl) (by rw [List.length_map]; exact hl)
theorem tup3_ok (p : T3) : (tup3 p).canLay0 = true ∧ (tup3 p).depth ≤ 1 := ⟨rfl, Nat.le_of_ble_eq_true rfl⟩
noncomputable def reps (rs : List (List T3)) : List PyData := rs.map fun r => .list (r.map tup3)
theorem reps_ok (rs : List (List T3)) : (PyData.list (reps rs)).canLay0 = true ∧ SeqAt.shaped (.list (reps rs)) = true := by
  have h := shaped_list (f := fun r : List T3 => PyData.list (r.map tup3)) (xs := rs) 2 (by decide) fun r _ => have h := shaped_list (f := tup3) (xs := r) 1 (by decide) fun p _ => tup3_ok p; ⟨h.1, h.2.1⟩
  exact ⟨h.1, h.2.2⟩
theorem X1.usedL {sc sc' : Scp} {ow ow' : List Str} {Γ : Gam} {x : Str} {px pos spos : Pos} {k : Nat} {kd : NameKind} {scope : Scope} {elt t iter : PySem.Expr} {ifs : List PySem.Expr} {gens : List Comprehension} {mp : List (Option Nat)} {α : Type} {g : α → PyData} {o : α → List PyData} {xs : List α} {l : List PyData} (el : l = xs.flatMap o) (hsw : ∀ env, EnvS sc env → swapsWith (.ListComp elt gens scope pos) (some (.Name x px)) spos.line env = pure true) (hq : compB scope sc sc' ow' mp = true) (hg : gens[0]? = some ⟨t, iter, ifs, 0⟩) (hs : ∀ (env : Env) v, foldedSetIterable iter env v = pure v) (hi : EvI c n sc (hide Γ) T t iter (xs.map g) T)
    (st : ∀ a ∈ xs, Tn c n sc' ow' elt gens scope pos 0 t ifs (inG mp (hide Γ)) T (g a) ((o a).map .p) T) (hT : T.self = none) (hl : l.length ≤ 1000000) (hk : sc[k]? = some (x, kd)) (hkl : k < Γ.length) (ho : OwnK kd x ow) :
    X1 c n sc ow Γ T (.Assign [.Name x px] (.ListComp elt gens scope pos) spos) .next (Γ.set k (some (.v (.p (.list l))))) T := by
  subst el
  exact X1.usedC hsw hq hg hs hi st hT hl hk hkl ho
noncomputable def repF (ns : List Int) (p : Nat × Nat) : List T3 := witF (wsOf (rowsF ns)[p.1]!) (wsOf (rowsF ns)[p.2]!)
noncomputable def parF (ns : List Int) (p : Nat × Nat) : List T3 := partF (leadsF ns)[p.1]! (leadsF ns)[p.2]!
noncomputable def gamA (xs ns : List Int) : Gam := [some (.v (.p (.list (xs.map .int)))), some (.v (.p (.list (ns.map .int)))), some (.v (.p (.int (baseF ns)))), some (.v (.p (.list ((leadsF ns).map .str)))), some (.v (.p (.list (((List.range 6).map (placeF ns)).map .int)))), some (.v (.p (.list ((rowsF ns).map .str)))), some (.v (.p (.list (pairsL.map pairD)))), none, none, none, none, none, none, none, none, none, none, none, none]
noncomputable def gamB (xs ns : List Int) : Gam := [some (.v (.p (.list (xs.map .int)))), some (.v (.p (.list (ns.map .int)))), some (.v (.p (.int (baseF ns)))), some (.v (.p (.list ((leadsF ns).map .str)))), some (.v (.p (.list (((List.range 6).map (placeF ns)).map .int)))), some (.v (.p (.list ((rowsF ns).map .str)))), some (.v (.p (.list (pairsL.map pairD)))), some (.v (.wsl ((rowsF ns).map wsF))), some (.v (.p (.list (reps (pairsL.map (repF ns)))))), some (.v (.p (.list (reps (pairsL.map (parF ns)))))), none, none, none, none, none, none, none, none, none]
theorem pairs_bd : pairsL.length = 15 ∧ ∀ p ∈ pairsL, p.1 < 6 ∧ p.2 < 6 := by decide +kernel
structure LineOK (ns : List Int) : Prop where
  len : ns.length = 6
  ws : ∀ r ∈ rowsF ns, WSok r ∧ r.cps.toList.length ≤ 100
  ld : ∀ x ∈ leadsF ns, LeadOK x
  same : pairsL.map (repF ns) = pairsL.map (parF ns)
theorem rows_at {ns : List Int} {i : Nat} (h : i < 6) : (rowsF ns)[i]? = some (rowsF ns)[i]! ∧ (rowsF ns)[i]! ∈ rowsF ns := by
  have h' : i < (rowsF ns).length := by unfold rowsF; rw [List.length_map, List.length_range]; exact h
  rw [List.getElem?_eq_getElem h', getElem!_pos _ i h']
  exact ⟨rfl, List.getElem_mem h'⟩
theorem rows_len {ns : List Int} : (rowsF ns).length = 6 := by unfold rowsF; rw [List.length_map, List.length_range]
theorem law_b (G : Gl c) (W : GlW c) {xs ns : List Int} (K : LineOK ns) : Ex c (n + 5) S_law O_law (gamA xs ns) ⟨none, none⟩ ((B_law.1.drop 6).take 4) .next (gamB xs ns) ⟨none, none⟩ := by
  show Ex _ _ _ _ _ _ (_ :: _) _ _ _
  refine' Ex.cons ?a1 ?b1
  case a1 =>
    refine' X1.assign (T' := ⟨none, none⟩) (dd := .wsl ((rowsF ns).map wsF)) (swC S_law_7) ?e1 S_law_7.hk (Nat.le_of_ble_eq_true (by kernel_rfl)) (.inr ⟨rfl, by simp⟩)
    case e1 =>
      refine' Ev.compW (ds := (rowsF ns).map .str) (sc' := S_law4) (ow' := O_law4) (mp := M_law4) (T₁ := ⟨none, none⟩) (CompOK.of (by kernel_rfl) rfl (fun _ _ => rfl)) (EvI.list (Ev.namV S_law_5 rfl) (.inl fun _ _ => rfl)) ?st ⟨Iff.rfl, rfl, rfl⟩ ?len
      case len => rw [List.length_map, rows_len]; decide
      case st => exact flat_ws ▸ Steps.mapM fun r hr => Tn.nam S_law4_1 (.inl rfl) (inG_none rfl) (Rs.emit rfl (hide_set hide_inG) (Ev.callN S_law4_2 (fun _ _ => rfl) (EvL.cons (Ev.namV S_law4_1 rfl) EvL.nil fun _ => rfl) (cls_c G (K.ws r hr).2)))
  refine' Ex.cons ?a2 ?b2
  case a2 =>
    refine' X1.usedL (T := ⟨none, none⟩) (g := pairD) (xs := pairsL) (l := reps (pairsL.map (repF ns))) (o := fun p => [PyData.list ((repF ns p).map tup3)]) (sc' := S_law5) (ow' := O_law5) (mp := M_law5) ?el ?sw ?cp ?hg ?fs ?hi (fun p hp => ?st) ?hT ?len S_law_8.hk ?hkl ?ho
    case el => unfold reps; rw [flat_single, List.map_map]; rfl
    case sw => exact swL S_law_8 (by kernel_rfl)
    case hg => rfl
    case cp => kernel_rfl
    case fs => exact fun _ _ => rfl
    case hi => exact (EvI.list (Ev.namV S_law_6 rfl) (.inr ⟨⟨_, _, _, rfl⟩, fun d m => by obtain ⟨p, _, rfl⟩ := List.mem_map.mp m; exact ⟨_, rfl⟩⟩))
    case hT => rfl
    case hkl => exact (Nat.le_of_ble_eq_true (by kernel_rfl))
    case ho => exact (.inl rfl)
    case len => unfold reps; rw [List.length_map, List.length_map, pairs_bd.1]; decide
    case st =>
      have b := pairs_bd.2 p hp
      have r1 := rows_at (ns := ns) b.1
      have r2 := rows_at (ns := ns) b.2
      have rl : (rowsF ns).length ≤ 1000000 := by rw [rows_len]; decide
      have hw := witness_c (n := n + 3) (tp := none) G W.m_wit (K.ws _ r1.2).1 (K.ws _ r2.2).1
      refine' Tn.mk0 (Tg.pair S_law5_1.hk (inG_none rfl).2 (.inl rfl) S_law5_2.hk (inG_none rfl).2 (.inl rfl) fun _ => rfl) (le_set2 (inG_none rfl) (inG_none rfl) (by decide)) (Rs.emit rfl (hide_set (hide_set hide_inG)) (Ev.callM (fun _ _ => rfl) (fun _ => by kernel_rfl) (Ev.item (fun _ _ => rfl) (Ev.namV S_law5_3 rfl) (Ev.namV S_law5_1 rfl) (Sub.wslN r1.1 rl)) (EvL.cons (Ev.item (fun _ _ => rfl) (Ev.namV S_law5_3 rfl) (Ev.namV S_law5_2 rfl) (Sub.wslN r2.1 rl)) EvL.nil fun _ => rfl) (hw)))
  refine' Ex.cons ?a3 ?b3
  case a3 =>
    refine' X1.assign (T' := ⟨none, none⟩) (dd := .p (.list (reps (pairsL.map (parF ns))))) (fun _ _ => rfl) ?e1 S_law_9.hk (Nat.le_of_ble_eq_true (by kernel_rfl)) (.inl rfl)
    case e1 =>
      have ll : (leadsF ns).length = 6 := by unfold leadsF; rw [List.length_map]; exact K.len
      have hp6 : ∀ p ∈ pairsL, p.1 < (leadsF ns).length ∧ p.2 < (leadsF ns).length := fun p hp => by rw [ll]; exact pairs_bd.2 p hp
      have hpl : pairsL.length ≤ 1000 := by rw [pairs_bd.1]; decide
      exact Ev.cast (Ev.callN S_law_22 (fun _ _ => rfl) (EvL.cons (Ev.namV S_law_3 rfl) (EvL.cons (Ev.namV S_law_6 rfl) EvL.nil fun _ => rfl) fun _ => rfl) (parted_c G W K.ld hp6 (by (first | (simp +arith only; done) | lia | omega)) hpl)) (by unfold reps; rw [List.map_map]; rfl)
  refine' Ex.cons (X1.if (b := false) (.inr (Tr.cast (Tr.cmp (Ev.namV S_law_8 rfl) (Ev.namV S_law_9 rfl) (Cmp.neP ?q1) rfl) ?q2)) (fun e => nomatch e) fun _ => Ex.nil) Ex.nil
  case q1 => rw [(reps_ok _).2, (reps_ok _).2]; rfl
  case q2 => rw [K.same, SeqAt.eqv_refl _ (reps_ok _).1]; rfl
end
end
noncomputable section
open PySem PySem.W PyProof.Rows PyProof.Rows.LSm PySem.Spec PyProof.V PySem.Calls
section
variable {c : Cx} {n : Nat} {T : TS} {tp : Option (List Nat)}
noncomputable def fsF (ns : List Int) : List Bool := pairsL.map fun p => decide (placeF ns p.1 < placeF ns p.2)
noncomputable def aftF (ns : List Int) : List (List Nat) := chartF pairsL (pairsL.map (parF ns)) (fsF ns)
noncomputable def flagN (ns : List Int) (row : List Nat) : Int := (row.map fun k : Nat => 1 * 2 ^ (baseF ns + k).toNat).sum
noncomputable def flagsF (ns : List Int) : List Int := (aftF ns).map (flagN ns)
noncomputable def marksF (ns : List Int) : List Int := (List.range 6).map fun i => placeF ns i + 7
structure ChartOK (ns : List Int) : Prop where
  mark : ∀ i < 6, lookup (.str (Txt.slice (rowsF ns)[i]! (some (wsOf (rowsF ns)[i]!).n) none)) tokTab = some (.int (placeF ns i + 7))
  rl : ∀ i < 6, ((rowsF ns)[i]!).length ≤ 1000000
  short : ∀ p ∈ pairsL, (parF ns p).length ≤ 1000
  rows : RowsOK (aftF ns)
noncomputable def gamC (xs ns : List Int) : Gam := [some (.v (.p (.list (xs.map .int)))), some (.v (.p (.list (ns.map .int)))), some (.v (.p (.int (baseF ns)))), some (.v (.p (.list ((leadsF ns).map .str)))), some (.v (.p (.list (((List.range 6).map (placeF ns)).map .int)))), some (.v (.p (.list ((rowsF ns).map .str)))), some (.v (.p (.list (pairsL.map pairD)))), some (.v (.wsl ((rowsF ns).map wsF))), some (.v (.p (.list (reps (pairsL.map (parF ns)))))), some (.v (.p (.list (reps (pairsL.map (parF ns)))))), some (.v (.p (.list ((marksF ns).map .int)))), some (.v (.p (.list (rowsD (aftF ns))))), some (.v (.p (.list (rowsD (aftF ns))))), some (.v (.p (.list ((flagsF ns).map .int)))), none, none, none, none, none]
theorem base_bd {ns : List Int} : 0 ≤ baseF ns ∧ baseF ns < 28 := by
  unfold baseF
  rw [Int.fmod_eq_emod_of_nonneg _ (by decide)]
  (first | (simp +arith only; done) | lia | omega)
theorem law_c (G : Gl c) (W : GlW c) {xs ns : List Int} (K : LineOK ns) (C : ChartOK ns) : Ex c (n + 5) S_law O_law (gamB xs ns) ⟨none, none⟩ ((B_law.1.drop 10).take 4) .next (gamC xs ns) ⟨none, none⟩ := by
  unfold gamB
  rw [K.same]
  show Ex _ _ _ _ _ _ (_ :: _) _ _ _
  refine' Ex.cons ?a1 ?b1
  case a1 =>
    refine' X1.assign (T' := ⟨none, none⟩) (dd := .p (.list ((marksF ns).map .int))) (swC S_law_10) ?e1 S_law_10.hk (Nat.le_of_ble_eq_true (by kernel_rfl)) (.inr ⟨rfl, by simp⟩)
    case e1 =>
      refine Ev.cast (EvO.ev (Comp.map (g := fun i : Nat => .int i) (xs := List.range (6 : Int).toNat) (f := fun i : Nat => .int (placeF ns i + 7)) (sc' := S_law6) (ow' := O_law6) (mp := M_law6) (by kernel_rfl) (fun _ _ => rfl) (rng1 S_law_21 G (fun _ _ => rfl) (EvL.cons Ev.int EvL.nil fun _ => rfl) (by decide) fun _ _ => rfl) S_law6_1 (.inl rfl) rfl (fun i hi => ?f) rfl (by decide))) (by unfold marksF; rw [List.map_map]; rfl)
      case f =>
        have hi : i < 6 := List.mem_range.mp hi
        have r1 := rows_at (ns := ns) hi
        have rl : (rowsF ns).length ≤ 1000000 := by rw [rows_len]; decide
        obtain ⟨D, hv, ht⟩ := G.t.tk
        refine Ev.entryT (fun _ _ => rfl) S_law6_2.k S_law6_2.d hv ht (Ev.from (Ev.item (fun _ _ => rfl) (Ev.namV S_law6_4 rfl) (Ev.namV S_law6_1 rfl) (Sub.listN r1.1 rl)) (Ev.field (pd := .int (wsOf (rowsF ns)[i]!).n) (Ev.item (fun _ _ => rfl) (Ev.namV S_law6_3 rfl) (Ev.namV S_law6_1 rfl) (Sub.wslN r1.1 rl)) (G.ok.na _ (by simp)) (by kernel_rfl) fun _ => by kernel_rfl) (C.rl i hi)) (C.mark i hi) fun _ => rfl
  have mk : ∀ i < 6, (marksF ns)[i]? = some (placeF ns i + 7) := fun i h => by unfold marksF; rw [List.getElem?_map, List.getElem?_range h]; rfl
  have pk : ∀ i < 6, ((List.range 6).map (placeF ns))[i]? = some (placeF ns i) := fun i h => by rw [List.getElem?_map, List.getElem?_range h]; rfl
  have ml : (marksF ns).length ≤ 1000000 := by unfold marksF; rw [List.length_map, List.length_range]; decide
  have pl : ((List.range 6).map (placeF ns)).length ≤ 1000000 := by rw [List.length_map, List.length_range]; decide
  have hrs : (pairsL.map (parF ns)).length = 15 ∧ ∀ r ∈ pairsL.map (parF ns), r.length ≤ 1000 := ⟨by rw [List.length_map, pairs_bd.1], fun r hr => by obtain ⟨p, hp, rfl⟩ := List.mem_map.mp hr; exact C.short p hp⟩
  have hfs : (fsF ns).length = 15 := by unfold fsF; rw [List.length_map, pairs_bd.1]
  have tg : ∀ d ∈ pairsL.map pairD, ∃ vs, d = .tuple vs := fun d m => by obtain ⟨p, _, rfl⟩ := List.mem_map.mp m; exact ⟨_, rfl⟩
  refine' Ex.cons ?a2 ?b2
  case a2 =>
    refine' X1.assign (T' := ⟨none, none⟩) (dd := .p (.list (rowsD (aftF ns)))) (fun _ _ => rfl) (Ev.callN S_law_23 (fun _ _ => rfl) (EvL.cons (Ev.namV S_law_6 rfl) (EvL.cons (Ev.namV S_law_8 rfl) (EvL.cons (T' := ⟨none, none⟩) ?e1 EvL.nil fun _ => rfl) fun _ => rfl) fun _ => rfl) (chart_c G W pairs_bd hrs hfs)) S_law_11.hk (Nat.le_of_ble_eq_true (by kernel_rfl)) (.inl rfl)
    case e1 =>
      refine Ev.cast (EvO.ev (Comp.mapP (g₁ := fun p : Nat × Nat => .int p.1) (g₂ := fun p : Nat × Nat => .int p.2) (f := fun p : Nat × Nat => .bool (decide (256 + (placeF ns p.1 + 7) - (placeF ns p.2 + 7) < 256))) (xs := pairsL) (sc' := S_law7) (ow' := O_law7) (mp := M_law7) (by kernel_rfl) (fun _ _ => rfl) (EvI.list (Ev.namV S_law_6 rfl) (.inr ⟨⟨_, _, _, rfl⟩, ?tg⟩)) S_law7_1 (.inl rfl) rfl S_law7_2 (.inl rfl) rfl (by decide) (fun _ => rfl) (fun p hp => ?f) rfl (by rw [pairs_bd.1]; decide))) ?q
      case tg => exact fun d m => by obtain ⟨p, _, rfl⟩ := List.mem_map.mp m; exact ⟨_, rfl⟩
      case q =>
        unfold fsF
        rw [List.map_map]
        refine congrArg PyData.list (List.map_congr_left fun p _ => congrArg PyData.bool ?_)
        exact decide_eq_decide.mpr (by (first | (simp +arith only; done) | lia | omega))
      case f =>
        obtain ⟨t, hv⟩ := G.t.nt
        have b := pairs_bd.2 p hp
        exact (Ev.callN S_law7_3 (fun _ _ => rfl) (EvL.cons (Ev.bin (Ev.bin (Ev.globInt S_law7_4.k S_law7_4.d hv) (Ev.item (fun _ _ => rfl) (Ev.namV S_law7_5 rfl) (Ev.namV S_law7_1 rfl) (Sub.listN (mk _ b.1) ml)) Bin.add) (Ev.item (fun _ _ => rfl) (Ev.namV S_law7_5 rfl) (Ev.namV S_law7_2 rfl) (Sub.listN (mk _ b.2) ml)) Bin.sub) EvL.nil fun _ => rfl) (term_c G))
  refine' Ex.cons ?a3 ?b3
  case a3 =>
    refine' X1.assign (T' := ⟨none, none⟩) (dd := .p (.list (rowsD (aftF ns)))) (fun _ _ => rfl) (Ev.callN S_law_23 (fun _ _ => rfl) (EvL.cons (Ev.namV S_law_6 rfl) (EvL.cons (Ev.namV S_law_9 rfl) (EvL.cons (T' := ⟨none, none⟩) ?e1 EvL.nil fun _ => rfl) fun _ => rfl) fun _ => rfl) (chart_c G W pairs_bd hrs hfs)) S_law_12.hk (Nat.le_of_ble_eq_true (by kernel_rfl)) (.inl rfl)
    case e1 =>
      refine Ev.cast (EvO.ev (Comp.mapP (g₁ := fun p : Nat × Nat => .int p.1) (g₂ := fun p : Nat × Nat => .int p.2) (f := fun p : Nat × Nat => .bool (decide (placeF ns p.1 < placeF ns p.2))) (xs := pairsL) (sc' := S_law8) (ow' := O_law8) (mp := M_law8) (by kernel_rfl) (fun _ _ => rfl) (EvI.list (Ev.namV S_law_6 rfl) (.inr ⟨⟨_, _, _, rfl⟩, ?tg⟩)) S_law8_1 (.inl rfl) rfl S_law8_2 (.inl rfl) rfl (by decide) (fun _ => rfl) (fun p hp => ?f) rfl (by rw [pairs_bd.1]; decide))) (by unfold fsF; rw [List.map_map]; rfl)
      case tg => exact fun d m => by obtain ⟨p, _, rfl⟩ := List.mem_map.mp m; exact ⟨_, rfl⟩
      case f =>
        have b := pairs_bd.2 p hp
        exact (Ev.cmp (Ev.item (fun _ _ => rfl) (Ev.namV S_law8_3 rfl) (Ev.namV S_law8_1 rfl) (Sub.listN (pk _ b.1) pl)) (Ev.item (fun _ _ => rfl) (Ev.namV S_law8_3 rfl) (Ev.namV S_law8_2 rfl) (Sub.listN (pk _ b.2) pl)) Cmp.lt rfl)
  refine' Ex.cons ?a4 Ex.nil
  case a4 =>
    refine' X1.usedL (T := ⟨none, none⟩) (g := fun r => .list (natD r)) (xs := aftF ns) (l := (flagsF ns).map .int) (o := fun r => [PyData.int (flagN ns r)]) (sc' := S_law9) (ow' := O_law9) (mp := M_law9) ?el ?sw ?cp ?hg ?fs ?hi (fun r hr => ?st) ?hT ?len S_law_13.hk ?hkl ?ho
    case el => unfold flagsF; rw [flat_single, List.map_map]; rfl
    case sw => exact swL S_law_13 (by kernel_rfl)
    case hg => rfl
    case cp => kernel_rfl
    case fs => exact fun _ _ => rfl
    case hi => exact (EvI.list (Ev.namV S_law_11 rfl) (.inl fun _ _ => rfl))
    case hT => rfl
    case hkl => exact (Nat.le_of_ble_eq_true (by kernel_rfl))
    case ho => exact (.inl rfl)
    case len => unfold flagsF; rw [List.length_map, List.length_map, C.rows.len]; decide
    case st =>
      have hr6 := C.rows.row r hr
      have b := base_bd (ns := ns)
      have e : r.map (fun k : Nat => PyData.int (1 * 2 ^ (baseF ns + k).toNat)) = (r.map fun k : Nat => (1 * 2 ^ (baseF ns + k).toNat : Int)).map .int := by rw [List.map_map]; rfl
      refine' Tn.nam S_law9_1 (.inl rfl) (inG_none rfl) (Rs.emit rfl (hide_set hide_inG) (Ev.callN S_law9_2 (fun _ _ => rfl) (EvL.cons (Ev.cast (EvO.ev (Comp.map (g := fun k : Nat => .int k) (xs := r) (f := fun k : Nat => .int (1 * 2 ^ (baseF ns + k).toNat)) (sc' := S_law10) (ow' := O_law10) (mp := M_law10) (by kernel_rfl) (fun _ _ => rfl) (EvI.list (Ev.namV S_law9_1 rfl) (.inl fun _ _ => rfl)) S_law10_1 (.inl rfl) rfl (fun k hk => ?f) rfl (by (first | (simp +arith only; done) | lia | omega)))) (congrArg PyData.list e)) EvL.nil fun _ => rfl) (cSum G)))
      case f =>
        have := C.rows.lt r hr k hk
        exact (Ev.bin Ev.int (Ev.bin (Ev.namV S_law10_2 rfl) (Ev.namV S_law10_1 rfl) Bin.add) (Bin.shl (by exact ⟨by (first | (simp +arith only; done) | lia | omega), by (first | (simp +arith only; done) | lia | omega), by decide⟩)))
end
end
noncomputable section
open PySem PySem.W PyProof.Rows PyProof.Rows.LSm PySem.Spec PyProof.V PySem.Calls
section
variable {c : Cx} {n : Nat} {T : TS} {tp : Option (List Nat)}
noncomputable def octsF (ns : List Int) : List Int := (flagsF ns).flatMap octF
noncomputable def byteF (z : Int) : List Nat := (octF z).map Int.toNat
noncomputable def bytesF (zs : List Int) : List Nat := zs.flatMap byteF
noncomputable def Reads6 (z : Int) : Prop := ∀ rest : List Nat, ∃ b bs, byteF z ++ rest = b :: bs ∧ vF bs b (Builtin.bitAnd b 63) = some (z, rest)
theorem Steps.read {sc : Scp} {ow : List Str} {elt t : PySem.Expr} {gens : List Comprehension} {scope : Scope} {pos : Pos} {Γ : Gam} (h : ∀ z rest b bs (d : PyData), vF bs b (Builtin.bitAnd b 63) = some (z, rest) → Tn c n sc ow elt gens scope pos 0 t [] Γ ⟨some (b :: bs), none⟩ d [.p (.int z)] ⟨some rest, none⟩) : ∀ (zs : List Int) (ds : List PyData), ds.length = zs.length → (∀ z ∈ zs, Reads6 z) → Steps c n sc ow elt gens scope pos 0 t [] Γ ⟨some (bytesF zs), none⟩ ds ((zs.map .int).map .p) ⟨some [], none⟩ := fun zs => by
  induction zs with
  | nil => intro ds hl _; cases ds with
    | nil => exact .nil _
    | cons d ds => cases hl
  | cons z zs ih =>
    intro ds hl hz
    cases ds with
    | nil => cases hl
    | cons d ds =>
      obtain ⟨b, bs, e, q⟩ := hz z (List.mem_cons_self ..) (bytesF zs)
      have e' : bytesF (z :: zs) = b :: bs := e
      rw [e']
      exact .cons _ _ _ _ _ _ _ (h z _ b bs d q) (ih ds (Nat.succ.inj hl) fun y m => hz y (List.mem_cons_of_mem _ m))
noncomputable def okS : Option Slot → Bool
  | none => true
  | some (.v .tape) => false
  | some (.v .self) => false
  | some (.v _) => true
  | some _ => false
theorem okS_of {Γ : Gam} (h : Γ.all okS = true) (k : Nat) (sl : Slot) (e : gget Γ k = some sl) : ∃ d, sl = .v d ∧ d ≠ .tape ∧ d ≠ .self := by
  have m : some sl ∈ Γ := by
    unfold gget at e
    cases q : Γ[k]? with
    | none => rw [q] at e; cases e
    | some o => rw [q] at e; exact (show o = some sl from e) ▸ List.mem_of_getElem? q
  have h := List.all_eq_true.mp h _ m
  cases sl with
  | v d => cases d with
    | tape => cases h
    | self => cases h
    | _ => exact ⟨_, rfl, nofun, nofun⟩
  | _ => cases h
noncomputable def gamD (xs ns : List Int) : Gam := (gamC xs ns).set 14 (some (.v .tape))
theorem law_t (G : Gl c) {xs ns : List Int} (hf : ∀ z ∈ flagsF ns, 0 ≤ z ∧ z < 2 ^ 40) (ho : ∀ i ∈ octsF ns, 0 ≤ i ∧ i < 256) (hl : (octsF ns).length ≤ 1000000) (h6 : (flagsF ns).length ≤ 1000000) {P : Sp} {A : Around} {env : Env} {s : Shared} {X₀ W : Addr → Prop} {K₀ : Addr → Obj → Prop} {RP : Shared → (Addr → Prop) → Prop} {E : Value → Shared → Prop} {Q : Flow → Shared → Prop}
    (J : Inv c P (n + 5) S_law O_law A env s X₀ W K₀ RP none (gamC xs ns) ⟨none, none⟩) (h : ∀ s' τ W', Inv c { P with τ := τ } (n + 5) S_law O_law A env s' (fun b => X₀ b ∨ b = τ) W' K₀ RP none (gamD xs ns) ⟨some (bytesF (flagsF ns)), none⟩ → Q .next s') :
    ∀ st rest, B_law.1.drop 14 = st :: rest → wpAny c.M A (exec st env) Q E s := fun st rest e => by
  obtain ⟨rfl, rfl⟩ := List.cons.inj (show (_ :: _) = st :: rest from e)
  refine tape_stmt (ns := octsF ns) (GlAt.gn S_law_24 (fx_iter G)) (GlAt.gn S_law_25 (fx_bytes G)) (fun _ => rfl) (fun _ => rfl) ?he ho hl ?hΓ ?hb (fun _ _ => rfl) S_law_14.hk (Nat.le_of_ble_eq_true (by kernel_rfl)) (.inr ⟨rfl, by simp⟩) J h
  case hb =>
    unfold bytesF octsF
    rw [List.map_flatMap]
    rfl
  case hΓ => exact okS_of (by kernel_rfl)
  case he =>
    have e : (octsF ns).map PyData.int = (flagsF ns).flatMap fun z => (octF z).map .int := List.map_flatMap ..
    rw [e]
    refine EvO.ev (Comp.gen (g := .int) (xs := flagsF ns) (sc' := S_law11) (ow' := O_law11) (mp := M_law11) (by kernel_rfl) rfl (fun _ _ => rfl) (EvI.list (Ev.namV S_law_13 rfl) (.inl fun _ _ => rfl)) (fun z hz => ?st) rfl (by rw [← e, List.length_map]; exact hl))
    case st =>
      have b := hf z hz
      exact Tn.cast (Tn.nam S_law11_1 (.inl rfl) (inG_none rfl) (Rs.nextM (g := .int) rfl (hide_set hide_inG) (fun _ _ => rfl) (EvI.list (Ev.callN S_law11_3 (fun _ _ => rfl) (EvL.cons (Ev.namV S_law11_1 rfl) EvL.nil fun _ => rfl) (octets_c G b.1 b.2)) (.inl fun _ _ => by exact rfl)) fun q hq => Tn.nam S_law11_2 (.inl rfl) ⟨rfl, Nat.le_of_ble_eq_true (by kernel_rfl)⟩ (Rs.emit rfl (hide_set (hide_set hide_inG)) (Ev.namV S_law11_2 rfl)))) flat_one
end
end
noncomputable section
open PySem PySem.W PyProof.Rows PyProof.Rows.LSm PySem.Spec PyProof.V PySem.Calls
section
variable {c : Cx} {n : Nat} {T : TS} {tp : Option (List Nat)}
noncomputable def wordF (z : Int) : Str := Txt.join ", " (pfGo flagTab (List.range 32) z [])
noncomputable def namesF (ns : List Int) : List Str := (List.range 6).map fun q : Nat => nameF (baseF ns + q)
noncomputable def sayF (ns : List Int) (r : List Nat) : Str := bif !r.isEmpty then Txt.join ", " (r.map fun k => (namesF ns)[k]!) else "0x0"
noncomputable def goW (ns : List Int) (r : List Nat) : List Nat := (List.range 6).filter fun k => ((Txt.split (wordF (flagN ns r)) ", ").map PyData.str).any fun y => PyData.eqv y (.str (namesF ns)[k]!)
structure WordOK (ns : List Int) : Prop where
  bd : ∀ r ∈ aftF ns, 0 ≤ flagN ns r ∧ flagN ns r < 2 ^ 34
  rt : ∀ z ∈ flagsF ns, Reads6 z
  eof : ∀ r ∈ aftF ns, (flagN ns r == 0) = r.isEmpty
  wj : ∀ r ∈ aftF ns, ((pfGo flagTab (List.range 32) (flagN ns r) []).map (·.length)).sum + (pfGo flagTab (List.range 32) (flagN ns r) []).length * (", " : Str).length ≤ 16777216
  wl : ∀ r ∈ aftF ns, (wordF (flagN ns r)).length ≤ sizeLine ∧ (Builtin.Str.partsBetween (wordF (flagN ns r)) (Builtin.Str.occurrences (wordF (flagN ns r)) ", " 0 (wordF (flagN ns r)).length ((wordF (flagN ns r)).length + 1)) (", " : Str).length).length ≤ sizeLine
  nj : ∀ r ∈ aftF ns, ((r.map fun k => (namesF ns)[k]!).map (·.length)).sum + (r.map fun k => (namesF ns)[k]!).length * (", " : Str).length ≤ 16777216
  sk : ∀ r ∈ aftF ns, PyData.strOk (wordF (flagN ns r)) = true ∧ ∀ y ∈ Txt.split (wordF (flagN ns r)) ", ", PyData.strOk y = true
  nk : ∀ k < 6, PyData.strOk (namesF ns)[k]! = true
  go : ∀ r ∈ aftF ns, goW ns r = r
  say : ∀ r ∈ aftF ns, wordF (flagN ns r) = sayF ns r
  law : waysF (aftF ns) = dueF (aftF ns)
theorem strs_ok {xs : List Str} (h : ∀ x ∈ xs, PyData.strOk x = true) : (PyData.list (xs.map .str)).canLay0 = true ∧ SeqAt.shaped (.list (xs.map .str)) = true :=
  have h := shaped_list (f := PyData.str) (xs := xs) 0 (by decide) fun x m => ⟨by unfold PyData.canLay0; exact h x m, Nat.le_of_eq (by unfold PyData.depth; rfl)⟩
  ⟨h.1, h.2.2⟩
theorem str_in {xs : List Str} {x : Str} (h : ∀ x ∈ xs, PyData.strOk x = true) (hx : PyData.strOk x = true) : (PyData.canLayAll0 (xs.map .str) && SeqAt.shaped (.str x)) = true := by
  have h1 : PyData.canLayAll0 (xs.map .str) = true := lay_map fun y m => by unfold PyData.canLay0; exact h y m
  have h2 : (PyData.str x).canLay0 = true := by unfold PyData.canLay0; exact hx
  have h3 : (PyData.str x).depth ≤ 64 := by unfold PyData.depth; exact Nat.zero_le _
  rw [h1]
  show (true && ((PyData.str x).canLay0 && decide ((PyData.str x).depth ≤ 64))) = true
  rw [h2, decide_eq_true h3]; rfl
theorem ints_ok (xs : List Int) : (PyData.list (xs.map .int)).canLay0 = true ∧ SeqAt.shaped (.list (xs.map .int)) = true :=
  have h := shaped_list (f := PyData.int) (xs := xs) 0 (by decide) fun _ _ => ⟨rfl, Nat.le_refl _⟩
  ⟨h.1, h.2.2⟩
theorem bools_ok {α : Type} (f : α → Bool) (xs : List α) : (PyData.list (xs.map fun a => .bool (f a))).canLay0 = true ∧ SeqAt.shaped (.list (xs.map fun a => .bool (f a))) = true :=
  have h := shaped_list (f := fun a => PyData.bool (f a)) (xs := xs) 0 (by decide) fun _ _ => ⟨rfl, Nat.le_refl _⟩
  ⟨h.1, h.2.2⟩
theorem eqv_nil {r : List Nat} : PyData.eqv (.list (natD r)) (.list []) = r.isEmpty := by cases r <;> rfl
theorem law_d (G : Gl c) (W : GlW c) {xs ns : List Int} (C : ChartOK ns) (V : WordOK ns) : Ex c (n + 5) S_law O_law (gamD xs ns) ⟨some (bytesF (flagsF ns)), none⟩ (B_law.1.drop 15) (.ret (.p (.bool true))) [] ⟨some [], none⟩ := by
  have fl : (flagsF ns).length = 6 := by unfold flagsF; rw [List.length_map, C.rows.len]
  show Ex _ _ _ _ _ _ (_ :: _) _ _ _
  refine' Ex.cons ?a1 ?b1
  case a1 =>
    refine' X1.used (T' := ⟨some [], none⟩) (T₁ := ⟨some (bytesF (flagsF ns)), none⟩) (l := (flagsF ns).map .int) (sc' := S_law12) (ow' := O_law12) (mp := M_law12) ?sw ?cp ?hi ?st ⟨⟨nofun, nofun⟩, rfl, rfl⟩ ?len (.inl rfl) S_law_15.hk ?hkl ?ho
    case sw => exact swL S_law_15 (by kernel_rfl)
    case cp => exact CompOK.of (by kernel_rfl) rfl (fun _ _ => rfl)
    case hi => exact (rng1 S_law_21 G (fun _ _ => rfl) (EvL.cons Ev.int EvL.nil fun _ => rfl) (by decide) fun _ _ => rfl)
    case hkl => exact (Nat.le_of_ble_eq_true (by kernel_rfl))
    case ho => exact (.inl rfl)
    case len => rw [List.length_map, fl]; decide
    case st =>
      refine Steps.read (fun z rest b bs d q => ?tn) (flagsF ns) _ (by rw [fl]; rfl) V.rt
      case tn => exact Tn.nam S_law12_1 (.inl rfl) (inG_none rfl) (Rs.emit rfl (hide_set hide_inG) (Ev.callN S_law12_2 (fun _ _ => rfl) (EvL.cons (Ev.namV S_law12_3 rfl) EvL.nil fun _ => rfl) (varint_c G q)))
  refine' Ex.cons (X1.if (b := false) (.inr (Tr.cast (Tr.boolop (TrAll.or' (t := false) rfl ?t1 (TrAll.or' (t := false) rfl ?t2 (TrAll.or' (t := false) rfl ?t3 TrAll.orNil)))) rfl)) (fun e => nomatch e) fun _ => Ex.nil) ?b2
  case t1 => exact Tr.cast (Tr.cmp (Ev.namV S_law_15 rfl) (Ev.namV S_law_13 rfl) (Cmp.neP (by rw [(ints_ok _).2, Bool.and_self])) rfl) (by rw [SeqAt.eqv_refl _ (ints_ok _).1]; rfl)
  case t2 => exact Tr.cast (Tr.cmp (Ev.callN S_law_26 (fun _ _ => rfl) (EvL.cons (Ev.namV S_law_14 rfl) EvL.nil fun _ => rfl) (cListT G)) (Ev.list EvP.nil (Nat.le_of_ble_eq_true (by kernel_rfl))) (Cmp.neP (by rfl)) rfl) rfl
  case t3 =>
    have e : (flagsF ns).map (fun z => PyData.bool (z == 0)) = (aftF ns).map fun r => .bool r.isEmpty := by
      unfold flagsF
      rw [List.map_map]
      exact List.map_congr_left fun r hr => congrArg PyData.bool (V.eof r hr)
    refine Tr.cast (Tr.cmp (Ev.cast (EvO.ev (Comp.map (g := .int) (xs := flagsF ns) (f := fun z => .bool (z == 0)) (sc' := S_law13) (ow' := O_law13) (mp := M_law13) (by kernel_rfl) (fun _ _ => rfl) (EvI.list (Ev.namV S_law_15 rfl) (.inl fun _ _ => rfl)) S_law13_1 (.inl rfl) rfl (fun z hz => (Ev.callN S_law13_2 (fun _ _ => rfl) (EvL.cons (Ev.namV S_law13_1 rfl) EvL.nil fun _ => rfl) (eof_c G))) rfl (by rw [fl]; decide))) (congrArg PyData.list e))
      (EvO.ev (Comp.map (g := fun r => .list (natD r)) (xs := aftF ns) (f := fun r => .bool r.isEmpty) (sc' := S_law14) (ow' := O_law14) (mp := M_law14) (by kernel_rfl) (fun _ _ => rfl) (EvI.list (Ev.namV S_law_12 rfl) (.inl fun _ _ => rfl)) S_law14_1 (.inl rfl) rfl (fun r hr => Ev.cast (Ev.cmp (Ev.namV S_law14_1 rfl) (Ev.list EvP.nil (by decide)) (Cmp.eqP (by rw [natD_shaped]; exact natD_shaped (w := []))) rfl) (congrArg PyData.bool eqv_nil)) rfl (by rw [C.rows.len]; decide))) (Cmp.neP (by rw [(bools_ok _ _).2]; rfl)) rfl) (by rw [SeqAt.eqv_refl _ (bools_ok _ _).1]; rfl)
  refine' Ex.cons ?a3 ?b3
  case a3 =>
    refine' X1.usedL (T := ⟨some [], none⟩) (g := .int) (xs := flagsF ns) (l := (aftF ns).map fun r => .str (wordF (flagN ns r))) (o := fun z => [PyData.str (wordF z)]) (sc' := S_law15) (ow' := O_law15) (mp := M_law15) ?el ?sw ?cp ?hg ?fs ?hi (fun z hz => ?st) ?hT ?len S_law_16.hk ?hkl ?ho
    case el => unfold flagsF; rw [flat_single, List.map_map]; rfl
    case sw => exact swL S_law_16 (by kernel_rfl)
    case hg => rfl
    case cp => kernel_rfl
    case fs => exact fun _ _ => rfl
    case hi => exact (EvI.list (Ev.namV S_law_15 rfl) (.inl fun _ _ => rfl))
    case hT => rfl
    case hkl => exact (Nat.le_of_ble_eq_true (by kernel_rfl))
    case ho => exact (.inl rfl)
    case len => rw [List.length_map, C.rows.len]; decide
    case st =>
      have hz' : (0 ≤ z ∧ z < 2 ^ 34) ∧ ((pfGo flagTab (List.range 32) z []).map (·.length)).sum + (pfGo flagTab (List.range 32) z []).length * (", " : Str).length ≤ 16777216 := by
        obtain ⟨r, hr, rfl⟩ := List.mem_map.mp hz
        exact ⟨V.bd r hr, V.wj r hr⟩
      exact Tn.nam S_law15_1 (.inl rfl) (inG_none rfl) (Rs.emit rfl (hide_set hide_inG) (Ev.callN S_law15_2 (fun _ _ => rfl) (EvL.cons (Ev.namV S_law15_1 rfl) EvL.nil fun _ => rfl) (flags_c G hz'.1 hz'.2)))
  refine' Ex.cons ?a4 ?b4
  case a4 =>
    refine' X1.assign (T' := ⟨some [], none⟩) (dd := .p (.list ((namesF ns).map .str))) (fun _ _ => rfl) ?e1 S_law_17.hk (Nat.le_of_ble_eq_true (by kernel_rfl)) (.inr ⟨rfl, by simp⟩)
    case e1 =>
      have b := base_bd (ns := ns)
      exact (Ev.callN S_law_27 (fun _ _ => rfl) (EvL.cons (Ev.namV S_law_2 rfl) EvL.nil fun _ => rfl) (names_c G W ⟨b.1, by (first | (simp +arith only; done) | lia | omega)⟩))
  have nm : ∀ k < 6, (namesF ns)[k]? = some (namesF ns)[k]! := fun k h => by
    have h' : k < (namesF ns).length := by unfold namesF; rw [List.length_map, List.length_range]; exact h
    rw [List.getElem?_eq_getElem h', getElem!_pos _ k h']
  have nl : (namesF ns).length ≤ 1000000 := by unfold namesF; rw [List.length_map, List.length_range]; decide
  refine' Ex.cons ?a5 ?b5
  case a5 =>
    refine' X1.usedL (T := ⟨some [], none⟩) (g := fun r => .str (wordF (flagN ns r))) (xs := aftF ns) (l := rowsD (aftF ns)) (o := fun r => [PyData.list (natD (goW ns r))]) (sc' := S_law16) (ow' := O_law16) (mp := M_law16) ?el ?sw ?cp ?hg ?fs ?hi (fun r hr => ?st) ?hT ?len S_law_18.hk ?hkl ?ho
    case el => rw [flat_single]; exact List.map_congr_left fun r hr => congrArg (fun w => PyData.list (natD w)) (V.go r hr).symm
    case sw => exact swL S_law_18 (by kernel_rfl)
    case hg => rfl
    case cp => kernel_rfl
    case fs => exact fun _ _ => rfl
    case hi => exact (EvI.list (Ev.namV S_law_16 rfl) (.inl fun _ _ => rfl))
    case hT => rfl
    case hkl => exact (Nat.le_of_ble_eq_true (by kernel_rfl))
    case ho => exact (.inl rfl)
    case len => unfold rowsD; rw [List.length_map, C.rows.len]; decide
    case st =>
      refine' Tn.nam S_law16_1 (.inr ⟨rfl, by simp⟩) (inG_none rfl) (Rs.emit rfl (hide_set hide_inG) (EvO.ev (Comp.fil (g := fun k : Nat => .int k) (xs := List.range (6 : Int).toNat) (p := fun k => ((Txt.split (wordF (flagN ns r)) ", ").map PyData.str).any fun y => PyData.eqv y (.str (namesF ns)[k]!)) (f := fun k : Nat => .int k) (sc' := S_law17) (ow' := O_law17) (mp := M_law17) (by kernel_rfl) (fun _ _ => rfl) (rng1 S_law16_2 G (fun _ _ => rfl) (EvL.cons Ev.int EvL.nil fun _ => rfl) (by decide) fun _ _ => rfl) S_law17_1 (.inl rfl) rfl (fun k hk => ?f) (fun k _ _ => (Ev.namV S_law17_1 rfl)) rfl (by decide))))
      case f =>
        have hk : k < 6 := List.mem_range.mp hk
        have hsi := str_in (V.sk r hr).2 (V.nk k hk)
        have hz := V.wl r hr
        exact (Tr.cmp (Ev.item (fun _ _ => rfl) (Ev.namV S_law17_2 rfl) (Ev.namV S_law17_1 rfl) (Sub.listN (nm k hk) nl)) (Ev.callM (fun _ _ => rfl) (fun _ => by kernel_rfl) (Ev.namV S_law17_3 rfl) (EvL.cons Ev.str EvL.nil fun _ => rfl) (mSplit rfl (by decide +kernel) hz.1 hz.2)) (Cmp.isIn (by exact hsi)) rfl)
  refine' Ex.cons (X1.if (b := false) (.inr (Tr.cast (Tr.cmp (Ev.callN S_law_28 (fun _ _ => rfl) (EvL.cons (Ev.namV S_law_18 rfl) EvL.nil fun _ => rfl) (ways_c G W C.rows)) (Ev.callN S_law_29 (fun _ _ => rfl) (EvL.cons (Ev.namV S_law_12 rfl) EvL.nil fun _ => rfl) (due_c G W C.rows)) (Cmp.neP (by rw [(ints_ok _).2, (ints_ok _).2, Bool.and_self])) rfl) (by rw [V.law, SeqAt.eqv_refl _ (ints_ok _).1]; rfl))) (fun e => nomatch e) fun _ => Ex.nil) ?b6
  have hA : (aftF ns).map (fun r => PyData.str (wordF (flagN ns r))) = ((aftF ns).map fun r => wordF (flagN ns r)).map .str := by rw [List.map_map]; rfl
  have hB : (aftF ns).map (fun r => PyData.str (sayF ns r)) = ((aftF ns).map fun r => wordF (flagN ns r)).map .str := by rw [List.map_map]; exact List.map_congr_left fun r hr => congrArg PyData.str (V.say r hr).symm
  have hk := strs_ok (xs := (aftF ns).map fun r => wordF (flagN ns r)) fun x m => by obtain ⟨r, hr, rfl⟩ := List.mem_map.mp m; exact (V.sk r hr).1
  refine' Ex.stop (X1.ret (Ev.cast (Ev.cmp (Ev.namV S_law_16 rfl) ?e1 (Cmp.eqP ?sh) rfl) ?q)) Fl.noConfusion
  case e1 =>
    refine EvO.ev (Comp.map (g := fun r => .list (natD r)) (xs := aftF ns) (f := fun r => .str (sayF ns r)) (sc' := S_law18) (ow' := O_law18) (mp := M_law18) (by kernel_rfl) (fun _ _ => rfl) (EvI.list (Ev.namV S_law_12 rfl) (.inl fun _ _ => rfl)) S_law18_1 (.inl rfl) rfl (fun r hr => ?f) rfl (by rw [C.rows.len]; decide))
    case f =>
      have hr6 := C.rows.row r hr
      refine Ev.iteS (t := !r.isEmpty) (Tr.cast (Tr.cmp (Ev.namV S_law18_1 rfl) (Ev.list EvP.nil (by decide)) (Cmp.neP (by rw [natD_shaped]; exact natD_shaped (w := []))) rfl) (congrArg not eqv_nil)) ?j Ev.str
      refine Ev.callM (fun _ _ => rfl) (fun _ => by kernel_rfl) Ev.str (EvL.cons (Ev.cast (d₁ := .list ((r.map fun k => (namesF ns)[k]!).map .str)) (EvO.ev (Comp.map (g := fun k : Nat => .int k) (xs := r) (f := fun k => .str (namesF ns)[k]!) (sc' := S_law19) (ow' := O_law19) (mp := M_law19) (by kernel_rfl) (fun _ _ => rfl) (EvI.list (Ev.namV S_law18_1 rfl) (.inl fun _ _ => rfl)) S_law19_1 (.inl rfl) rfl (fun k hk => ?g) rfl (by (first | (simp +arith only; done) | lia | omega)))) (by rw [List.map_map]; rfl)) EvL.nil fun _ => rfl) (mJoin (V.nj r hr))
      case g => exact (Ev.item (fun _ _ => rfl) (Ev.namV S_law19_2 rfl) (Ev.namV S_law19_1 rfl) (Sub.listN (nm k (C.rows.lt r hr k hk)) nl))
  case sh => rw [hA, hB, hk.2]; rfl
  case q => rw [hA, hB, SeqAt.eqv_refl _ hk.1]
end
end
noncomputable section
open PySem PySem.W PyProof.Rows PyProof.Rows.LSm PySem.Spec PyProof.V PySem.Calls
section
noncomputable def leadB (x : Str) : Bool := decide (x.length ≤ sizeLine) && (decide ((Builtin.Str.partsBetween x (Builtin.Str.occurrences x "\t" 0 x.length (x.length + 1)) ("\t" : Str).length).length ≤ sizeLine) && (((Txt.split x "\t").all fun r => decide (r.length ≤ 1000000)) && (decide ((Txt.split x "\t").length ≤ 1000000) && ((lens x).contains (lngF x) && (((lens x).all fun y => decide (y ≤ lngF x)) && decide (0 ≤ lngF x ∧ lngF x ≤ 3))))))
theorem leadB_of {x : Str} (h : leadB x = true) : LeadOK x := by
  simp only [leadB, Bool.and_eq_true, decide_eq_true_eq, List.all_eq_true, List.contains_iff_mem] at h
  obtain ⟨h1, h2, h3, h4, h5, h6, h7⟩ := h
  exact ⟨h1, h2, h3, h4, h5, h6, h7⟩
set_option maxHeartbeats 2000000 in
theorem leads_all : ∀ a < 3, ∀ b < 3, ∀ k < 4, leadB (leadG (a : Nat) (b : Nat) (k : Nat)) = true := by decide +kernel
theorem lead_form (x : Int) : ∃ a b k : Nat, a < 3 ∧ b < 3 ∧ k < 4 ∧ leadF x = leadG a b k := by
  have h1 := mod3 (x := x)
  have h2 := mod3 (x := x.fdiv 3)
  have h3 := mod4 (x := x.fdiv 9)
  unfold leadF
  generalize x.fmod 3 = u at *
  generalize (x.fdiv 3).fmod 3 = v at *
  generalize (x.fdiv 9).fmod 4 = w at *
  exact ⟨u.toNat, v.toNat, w.toNat, by (first | (simp +arith only; done) | lia | omega), by (first | (simp +arith only; done) | lia | omega), by (first | (simp +arith only; done) | lia | omega), by rw [Int.toNat_of_nonneg h1.1, Int.toNat_of_nonneg h2.1, Int.toNat_of_nonneg h3.1]⟩
theorem lead_ok (x : Int) : LeadOK (leadF x) := by
  obtain ⟨a, b, k, ha, hb, hk, e⟩ := lead_form x
  rw [e]
  exact leadB_of (leads_all a ha b hb k hk)
end
end
noncomputable section
open PySem PySem.W PyProof.Rows PyProof.Rows.LSm PySem.Spec PyProof.V PySem.Calls
section
noncomputable def wsL (x : Str) : WS := wsOf x
noncomputable def isIntD (i : Int) : Option PyData → Bool
  | some (.int j) => i == j
  | _ => false
theorem isIntD_of {i : Int} {o : Option PyData} (h : isIntD i o = true) : o = some (.int i) := by
  cases o with
  | none => cases h
  | some d => cases d with
    | int j => rw [eq_of_beq h]
    | _ => cases h
theorem wsGo_app {q : Nat} {r : List Nat} (h1 : ((⟨#[q]⟩ : Str) == " ") = false) (h2 : ((⟨#[q]⟩ : Str) == "\t") = false) : ∀ (l : List Nat) (s : WS), wsGo (l ++ q :: r) s = wsGo l s := fun l => by
  induction l with
  | nil => intro s; show wsGo (q :: r) s = s; unfold wsGo; rw [h1, h2]; rfl
  | cons a l ih => intro s; show wsGo (a :: (l ++ q :: r)) s = wsGo (a :: l) s; unfold wsGo; rw [ih, ih]
theorem slice_app (x s : Str) : Txt.slice (x ++ s) (some (x.cps.toList.length : Int)) none = s := by
  have e : (x ++ s).cps.toList = x.cps.toList ++ s.cps.toList := Array.toList_append
  refine (StrLaws.sliceText_from (x := x ++ s) ⟨Int.natCast_nonneg _, by rw [e, List.length_append]; (first | (simp +arith only; done) | lia | omega)⟩).trans ?_
  rw [e, Int.toNat_natCast, List.drop_left, List.length_append, show (((x.cps.toList.length + s.cps.toList.length : Nat) : Int) - (x.cps.toList.length : Int)).toNat = s.cps.toList.length from by (first | (simp +arith only; done) | lia | omega), List.take_length]
noncomputable def signB (p : Nat) : Bool := match (signsL[p]!).cps.toList with
  | [] => false
  | q :: _ => !((⟨#[q]⟩ : Str) == " ") && (!((⟨#[q]⟩ : Str) == "\t") && (decide ((signsL[p]!).cps.toList.length ≤ 10) && isIntD ((p : Int) + 7) (lookup (.str signsL[p]!) tokTab)))
theorem signs_all : ∀ p < 48, signB p = true := by decide +kernel
noncomputable def ldB (x : Str) : Bool := decide ((wsL x).cnt.length ≤ 101) && (decide (0 ≤ (wsL x).b ∧ (wsL x).b ≤ 100) && (decide (x.cps.toList.length ≤ 10) && (wsL x).n == x.cps.toList.length))
end
end
noncomputable section
open PySem PySem.W PyProof.Rows PyProof.Rows.LSm PySem.Spec PyProof.V PySem.Calls
section
noncomputable def t3B (r s : List T3) : Bool := r == s
noncomputable def leadAll : List Str := (List.range 3).flatMap fun a => (List.range 3).flatMap fun b => (List.range 4).map fun k => leadG (a : Nat) (b : Nat) (k : Nat)
theorem lds_all : leadAll.all ldB = true := by decide +kernel
noncomputable def repB (x y : Str) : Bool := t3B (witF (wsL x) (wsL y)) (partF x y) && decide ((partF x y).length ≤ 1000)
set_option maxHeartbeats 2000000 in
theorem reps_all : (leadAll.all fun x => leadAll.all fun y => repB x y) = true := by decide +kernel
end
end
noncomputable section
open PySem PySem.W PyProof.Rows PyProof.Rows.LSm PySem.Spec PyProof.V PySem.Calls
section
variable {ns : List Int}
theorem lead_mem {a b k : Nat} (ha : a < 3) (hb : b < 3) (hk : k < 4) : leadG a b k ∈ leadAll :=
  List.mem_flatMap.mpr ⟨a, List.mem_range.mpr ha, List.mem_flatMap.mpr ⟨b, List.mem_range.mpr hb, List.mem_map.mpr ⟨k, List.mem_range.mpr hk, rfl⟩⟩⟩
theorem row_facts (hl : ns.length = 6) {i : Nat} (hi : i < 6) : ∃ (x : Str) (p : Nat), p < 48 ∧ (rowsF ns)[i]! = x ++ signsL[p]! ∧ (leadsF ns)[i]! = x ∧ (p : Int) = placeF ns i ∧ x ∈ leadAll := by
  have hb := place_bd (ns := ns) (i := i)
  have h1 : (leadsF ns)[i]! = leadF ns[i]! := by
    have h' : i < (leadsF ns).length := by unfold leadsF; rw [List.length_map, hl]; exact hi
    rw [getElem!_pos _ i h', getElem!_pos ns i (hl ▸ hi)]
    exact List.getElem_map ..
  have h2 : (rowsF ns)[i]! = rowF ns i := by
    have h' : i < (rowsF ns).length := by rw [rows_len]; exact hi
    rw [getElem!_pos _ i h']
    exact (List.getElem_map ..).trans (congrArg (rowF ns) (List.getElem_range ..))
  obtain ⟨a, b, k, ha, hb', hk, e⟩ := lead_form ns[i]!
  exact ⟨leadF ns[i]!, (placeF ns i).toNat, by (first | (simp +arith only; done) | lia | omega), by rw [h2, rowF, h1], h1, Int.toNat_of_nonneg hb.1, e ▸ lead_mem ha hb' hk⟩
theorem row_ok {x : Str} {p : Nat} (hx : x ∈ leadAll) (hp : p < 48) : wsOf (x ++ signsL[p]!) = wsL x ∧ WSok (x ++ signsL[p]!) ∧ (x ++ signsL[p]!).cps.toList.length ≤ 100 ∧ (x ++ signsL[p]!).length ≤ 1000000 ∧ lookup (.str (Txt.slice (x ++ signsL[p]!) (some (wsOf (x ++ signsL[p]!)).n) none)) tokTab = some (.int ((p : Int) + 7)) := by
  have h := List.all_eq_true.mp lds_all x hx
  have g := signs_all p hp
  unfold ldB at h
  unfold signB at g
  generalize signsL[p]! = y at *
  have e : (x ++ y).cps.toList = x.cps.toList ++ y.cps.toList := Array.toList_append
  split at g
  · cases g
  · rename_i q r hy
    simp only [Bool.and_eq_true, decide_eq_true_eq, Bool.not_eq_true'] at h g
    obtain ⟨g1, g2, g3, g4⟩ := g
    obtain ⟨h1, h2, h3, h4⟩ := h
    have w : wsOf (x ++ y) = wsL x := by
      unfold wsL wsOf
      rw [e, hy]
      exact wsGo_app g1 g2 _ _
    have l : (x ++ y).cps.toList.length ≤ 20 := by rw [e, List.length_append]; (first | (simp +arith only; done) | lia | omega)
    refine ⟨w, ⟨w ▸ h1, w ▸ h2⟩, Nat.le_trans l (by decide), Nat.le_trans (Nat.le_of_eq (Array.length_toList ..).symm) (Nat.le_trans l (by decide)), ?_⟩
    rw [w, eq_of_beq h4, slice_app]
    exact isIntD_of g4
theorem rep_same (hl : ns.length = 6) {p : Nat × Nat} (hp : p ∈ pairsL) : repF ns p = parF ns p ∧ (parF ns p).length ≤ 1000 := by
  obtain ⟨x, q, hq, r1, l1, _, m1⟩ := row_facts hl (pairs_bd.2 p hp).1
  obtain ⟨y, r, hr, r2, l2, _, m2⟩ := row_facts hl (pairs_bd.2 p hp).2
  have h := List.all_eq_true.mp (List.all_eq_true.mp reps_all x m1) y m2
  simp only [repB, t3B, Bool.and_eq_true, decide_eq_true_eq, beq_iff_eq] at h
  unfold repF parF
  rw [r1, r2, l1, l2, (row_ok m1 hq).1, (row_ok m2 hr).1]
  exact h
theorem line_ok (hl : ns.length = 6) : LineOK ns where
  len := hl
  ws := fun r hr => by
    obtain ⟨i, hi, e⟩ := List.getElem_of_mem hr
    have hi' : i < 6 := rows_len (ns := ns) ▸ hi
    obtain ⟨x, p, hp, r1, _, _, m1⟩ := row_facts hl hi'
    rw [getElem!_pos _ i hi, e] at r1
    rw [r1]
    exact ⟨(row_ok m1 hp).2.1, (row_ok m1 hp).2.2.1⟩
  ld := fun x hx => by
    obtain ⟨z, _, rfl⟩ := List.mem_map.mp hx
    exact lead_ok z
  same := List.map_congr_left fun p hp => (rep_same hl hp).1
theorem chart_ok (hl : ns.length = 6) (R : RowsOK (aftF ns)) : ChartOK ns where
  mark := fun i hi => by
    obtain ⟨x, p, hp, r1, _, e, m1⟩ := row_facts hl hi
    rw [r1, ← e]
    exact (row_ok m1 hp).2.2.2.2
  rl := fun i hi => by
    obtain ⟨x, p, hp, r1, _, _, m1⟩ := row_facts hl hi
    rw [r1]
    exact (row_ok m1 hp).2.2.2.1
  short := fun p hp => (rep_same hl hp).2
  rows := R
end
end
noncomputable section
open PySem PySem.W PyProof.Rows PyProof.Rows.LSm PySem.Spec PyProof.V PySem.Calls
section
noncomputable def contr (ps : List (Nat × Nat)) (w : Nat → Bool) (i j : Nat) : List Nat := bif (ps[j]!).1 == i then (bif w j then [(ps[j]!).2] else []) else bif (ps[j]!).2 == i then (bif !(w j) then [(ps[j]!).1] else []) else []
noncomputable def chartW (ps : List (Nat × Nat)) (w : Nat → Bool) (ll : List (List Nat)) (j : Nat) : List (List Nat) := bif w j then addAt ll (ps[j]!).1 (ps[j]!).2 else addAt ll (ps[j]!).2 (ps[j]!).1
theorem addAt_get {ll : List (List Nat)} {i k m : Nat} (hi : i < ll.length) (hm : m < ll.length) : (addAt ll i k)[m]! = bif i == m then ll[m]! ++ [k] else ll[m]! := by
  have h' : m < (addAt ll i k).length := by unfold addAt; rw [List.length_set]; exact hm
  rw [getElem!_pos _ m h', getElem!_pos ll m hm]
  refine (List.getElem_set ..).trans ?_
  by_cases h : i = m
  · subst h; rw [if_pos rfl, getElem!_pos ll i hi]; simp
  · rw [if_neg h, beq_false_of_ne h, cond_false]
theorem chartW_get {ps : List (Nat × Nat)} {w : Nat → Bool} {ll : List (List Nat)} {j m : Nat} (hp : (ps[j]!).1 < ll.length ∧ (ps[j]!).2 < ll.length ∧ (ps[j]!).1 ≠ (ps[j]!).2) (hm : m < ll.length) : (chartW ps w ll j)[m]! = ll[m]! ++ contr ps w m j := by
  unfold chartW contr
  generalize ps[j]! = p at *
  cases w j with
  | true =>
    rw [cond_true, addAt_get hp.1 hm]
    by_cases h : p.1 = m
    · rw [beq_iff_eq.mpr h]; rfl
    · rw [beq_false_of_ne h]
      simp
  | false =>
    rw [cond_false, addAt_get hp.2.1 hm]
    by_cases h : p.2 = m
    · have h2 : p.1 ≠ m := fun e => hp.2.2 (e.trans h.symm)
      rw [beq_iff_eq.mpr h, beq_false_of_ne h2]; rfl
    · rw [beq_false_of_ne h]
      simp
theorem fold_get {ps : List (Nat × Nat)} {w : Nat → Bool} {m : Nat} (hm : m < 6) : ∀ (js : List Nat) (ll : List (List Nat)), ll.length = 6 → (∀ j ∈ js, (ps[j]!).1 < 6 ∧ (ps[j]!).2 < 6 ∧ (ps[j]!).1 ≠ (ps[j]!).2) → (js.foldl (chartW ps w) ll).length = 6 ∧ (js.foldl (chartW ps w) ll)[m]! = ll[m]! ++ js.flatMap (contr ps w m) := fun js => by
  induction js with
  | nil => intro ll hl _; exact ⟨hl, (List.append_nil _).symm⟩
  | cons j js ih =>
    intro ll hl hp
    have hj := hp j (List.mem_cons_self ..)
    have h1 : (chartW ps w ll j).length = 6 := by unfold chartW addAt; cases w j <;> simp [hl]
    obtain ⟨h2, h3⟩ := ih (chartW ps w ll j) h1 fun b q => hp b (List.mem_cons_of_mem _ q)
    refine ⟨h2, h3.trans ?_⟩
    rw [chartW_get (by rw [hl]; exact hj) (by (first | (simp +arith only; done) | lia | omega)), List.flatMap_cons, List.append_assoc]
end
end
noncomputable section
open PySem PySem.W PyProof.Rows PyProof.Rows.LSm PySem.Spec PyProof.V PySem.Calls
section
noncomputable def val : List Nat → Nat → Nat
  | [], _ => 0
  | s :: r, m => (s.testBit m).toNat + 2 * val r m
end
end
noncomputable section
open PySem PySem.W PyProof.Rows PyProof.Rows.LSm PySem.Spec PyProof.V PySem.Calls
section
noncomputable def ix (i k : Nat) : Nat := i * (11 - i) / 2 + (k - i - 1)
noncomputable def beats (w : Nat → Bool) (i k : Nat) : Bool := bif Nat.blt i k then w (ix i k) else bif Nat.blt k i then !(w (ix k i)) else false
noncomputable def G5 (p q r s t : Nat) (a b c d e : Bool) : List Nat := (bif a then [p] else []) ++ ((bif b then [q] else []) ++ ((bif c then [r] else []) ++ ((bif d then [s] else []) ++ ((bif e then [t] else []) ++ []))))
noncomputable def H5 (m : Nat) (a b c d e : Bool) : List Nat := (List.range 6).filter fun k => bif Nat.blt k m then [a, b, c, d, e][k]! else bif Nat.blt m k then [a, b, c, d, e][k - 1]! else false
theorem g5 : (∀ a b c d e, G5 1 2 3 4 5 a b c d e = H5 0 a b c d e) ∧ (∀ a b c d e, G5 0 2 3 4 5 a b c d e = H5 1 a b c d e) ∧ (∀ a b c d e, G5 0 1 3 4 5 a b c d e = H5 2 a b c d e) ∧ (∀ a b c d e, G5 0 1 2 4 5 a b c d e = H5 3 a b c d e) ∧ (∀ a b c d e, G5 0 1 2 3 5 a b c d e = H5 4 a b c d e) ∧ (∀ a b c d e, G5 0 1 2 3 4 a b c d e = H5 5 a b c d e) := by decide +kernel
noncomputable def rowG (w : Nat → Bool) (m : Nat) : List Nat := (List.range 15).flatMap (contr pairsL w m)
noncomputable def bb (w : Nat → Bool) (m q : Nat) : Bool := beats w m (bif Nat.blt q m then q else q + 1)
theorem six {p : Nat → Prop} (h0 : p 0) (h1 : p 1) (h2 : p 2) (h3 : p 3) (h4 : p 4) (h5 : p 5) (m : Nat) (h : m < 6) : p m := by
  rcases Nat.lt_succ_iff_lt_or_eq.mp h with h | rfl
  · rcases Nat.lt_succ_iff_lt_or_eq.mp h with h | rfl
    · rcases Nat.lt_succ_iff_lt_or_eq.mp h with h | rfl
      · rcases Nat.lt_succ_iff_lt_or_eq.mp h with h | rfl
        · rcases Nat.lt_succ_iff_lt_or_eq.mp h with h | rfl
          · rcases Nat.lt_succ_iff_lt_or_eq.mp h with h | rfl
            · exact absurd h (Nat.not_lt_zero m)
            · exact h0
          · exact h1
        · exact h2
      · exact h3
    · exact h4
  · exact h5
theorem rowG_eq (w : Nat → Bool) : ∀ m < 6, rowG w m = H5 m (bb w m 0) (bb w m 1) (bb w m 2) (bb w m 3) (bb w m 4) := six (p := fun m => rowG w m = H5 m (bb w m 0) (bb w m 1) (bb w m 2) (bb w m 3) (bb w m 4)) ((show rowG w 0 = G5 1 2 3 4 5 (bb w 0 0) (bb w 0 1) (bb w 0 2) (bb w 0 3) (bb w 0 4) by kernel_rfl).trans (g5.1 ..)) ((show rowG w 1 = G5 0 2 3 4 5 (bb w 1 0) (bb w 1 1) (bb w 1 2) (bb w 1 3) (bb w 1 4) by kernel_rfl).trans (g5.2.1 ..)) ((show rowG w 2 = G5 0 1 3 4 5 (bb w 2 0) (bb w 2 1) (bb w 2 2) (bb w 2 3) (bb w 2 4) by kernel_rfl).trans (g5.2.2.1 ..)) ((show rowG w 3 = G5 0 1 2 4 5 (bb w 3 0) (bb w 3 1) (bb w 3 2) (bb w 3 3) (bb w 3 4) by kernel_rfl).trans (g5.2.2.2.1 ..)) ((show rowG w 4 = G5 0 1 2 3 5 (bb w 4 0) (bb w 4 1) (bb w 4 2) (bb w 4 3) (bb w 4 4) by kernel_rfl).trans (g5.2.2.2.2.1 ..)) ((show rowG w 5 = G5 0 1 2 3 4 (bb w 5 0) (bb w 5 1) (bb w 5 2) (bb w 5 3) (bb w 5 4) by kernel_rfl).trans (g5.2.2.2.2.2 ..))
end
end
noncomputable section
open PySem PySem.W PyProof.Rows PyProof.Rows.LSm PySem.Spec PyProof.V PySem.Calls
section
noncomputable def rowB6 (w : Nat → Bool) (m : Nat) : List Nat := (List.range 6).filter (beats w m)
theorem rowG_beats (w : Nat → Bool) : ∀ m < 6, rowG w m = rowB6 w m := fun m hm => by
  refine (rowG_eq w m hm).trans ?_
  exact six (p := fun m => H5 m (bb w m 0) (bb w m 1) (bb w m 2) (bb w m 3) (bb w m 4) = rowB6 w m) (by kernel_rfl) (by kernel_rfl) (by kernel_rfl) (by kernel_rfl) (by kernel_rfl) (by kernel_rfl) m hm
theorem srt_row (w : Nat → Bool) (m : Nat) : srt (rowB6 w m) = rowB6 w m := by
  refine List.mergeSort_of_pairwise ?_
  refine (List.Pairwise.sublist List.filter_sublist (List.pairwise_le_range (n := 6))).imp fun h => ?_
  simpa using h
noncomputable def aftW (w : Nat → Bool) : List (List Nat) := (List.range 6).map (rowB6 w)
end
end
noncomputable section
open PySem PySem.W PyProof.Rows PyProof.Rows.LSm PySem.Spec PyProof.V PySem.Calls
section
noncomputable def wF (ns : List Int) (j : Nat) : Bool := winF (pairsL.map (parF ns))[j]! (fsF ns)[j]!
theorem pairs_ne : ∀ j ∈ List.range 15, (pairsL[j]!).1 < 6 ∧ (pairsL[j]!).2 < 6 ∧ (pairsL[j]!).1 ≠ (pairsL[j]!).2 := by decide +kernel
theorem init_at : ∀ m < 6, ([[], [], [], [], [], []] : List (List Nat))[m]! = [] := by decide +kernel
theorem aftF_eq (ns : List Int) : aftF ns = aftW (wF ns) := by
  have e : aftF ns = ((List.range 15).foldl (chartW pairsL (wF ns)) [[], [], [], [], [], []]).map srt := rfl
  rw [e]
  have hX : ∀ m < 6, ((List.range 15).foldl (chartW pairsL (wF ns)) [[], [], [], [], [], []]).length = 6 ∧ ((List.range 15).foldl (chartW pairsL (wF ns)) [[], [], [], [], [], []])[m]! = rowB6 (wF ns) m := fun m hm => by
    have h := fold_get (w := wF ns) hm (List.range 15) [[], [], [], [], [], []] rfl pairs_ne
    refine ⟨h.1, h.2.trans ?_⟩
    rw [init_at m hm, List.nil_append]
    exact rowG_beats (wF ns) m hm
  generalize (List.range 15).foldl (chartW pairsL (wF ns)) [[], [], [], [], [], []] = X at hX
  have hl := (hX 0 (by decide)).1
  refine List.ext_getElem (by unfold aftW; rw [List.length_map, List.length_map, hl, List.length_range]) fun i h1 h2 => ?_
  have hi : i < X.length := by rw [List.length_map] at h1; exact h1
  have h := (hX i (hl ▸ hi)).2
  rw [getElem!_pos X i hi] at h
  refine (List.getElem_map ..).trans ?_
  rw [h, srt_row]
  exact ((List.getElem_map ..).trans (congrArg (rowB6 (wF ns)) (List.getElem_range ..))).symm
theorem aftW_rows (w : Nat → Bool) : RowsOK (aftW w) where
  len := by unfold aftW; rw [List.length_map, List.length_range]
  row := fun r hr => by
    obtain ⟨m, _, rfl⟩ := List.mem_map.mp hr
    exact Nat.le_trans (List.length_filter_le ..) (by decide)
  lt := fun r hr x hx => by
    obtain ⟨m, _, rfl⟩ := List.mem_map.mp hr
    exact List.mem_range.mp (List.mem_filter.mp hx).1
end
end
noncomputable section
open PySem PySem.W PyProof.Rows PyProof.Rows.LSm PySem.Spec PyProof.V PySem.Calls
section
variable {w : Nat → Bool}
noncomputable def pathB (w : Nat → Bool) : List Nat → Bool
  | [] => true
  | a :: r => match r with
    | [] => true
    | b :: _ => beats w a b && pathB w r
noncomputable def nextS (s : List Nat) : List (List Nat) := ((List.range 6).filter fun one => !s.contains one).map fun one => s ++ [one]
noncomputable def allS : Nat → List (List Nat)
  | 0 => (List.range 6).map fun i => [i]
  | k + 1 => (allS k).flatMap nextS
theorem path_app : ∀ (s : List Nat) (one : Nat), s ≠ [] → pathB w (s ++ [one]) = (pathB w s && beats w (lastN s) one) := fun s => by
  induction s with
  | nil => intro one h; exact absurd rfl h
  | cons a r ih =>
    intro one _
    cases r with
    | nil => show (beats w a one && true) = (true && beats w a one); rw [Bool.and_true, Bool.true_and]
    | cons b r =>
      have h := ih one (List.cons_ne_nil _ _)
      show (beats w a b && pathB w ((b :: r) ++ [one])) = ((beats w a b && pathB w (b :: r)) && beats w (lastN (a :: b :: r)) one)
      rw [h, Bool.and_assoc]
      unfold lastN
      rw [List.getLast?_cons_cons]
theorem all_ok : ∀ k, ∀ s ∈ allS k, s ≠ [] ∧ lastN s < 6 := fun k => by
  cases k with
  | zero => decide +kernel
  | succ k =>
    intro s hs
    obtain ⟨t, _, hs⟩ := List.mem_flatMap.mp hs
    obtain ⟨one, ho, rfl⟩ := List.mem_map.mp hs
    refine ⟨List.append_ne_nil_of_right_ne_nil _ (List.cons_ne_nil _ _), ?_⟩
    unfold lastN
    rw [List.getLast?_append]
    exact List.mem_range.mp (List.mem_filter.mp ho).1
theorem aftW_at {m : Nat} (h : m < 6) : (aftW w)[m]! = rowB6 w m := by
  have h' : m < (aftW w).length := by rw [(aftW_rows w).len]; exact h
  rw [getElem!_pos _ m h']
  exact (List.getElem_map ..).trans (congrArg (rowB6 w) (List.getElem_range ..))
theorem next_out {s : List Nat} (h : s ≠ [] ∧ lastN s < 6) : (nextS s).filter (pathB w) = bif pathB w s then outW (aftW w) s else [] := by
  unfold nextS outW
  rw [aftW_at h.2, List.filter_map]
  have e : (pathB w ∘ fun one => s ++ [one]) = fun one => pathB w s && beats w (lastN s) one := funext fun one => path_app s one h.1
  rw [e]
  unfold rowB6
  cases pathB w s with
  | false => rw [cond_false]; simp
  | true =>
    rw [cond_true, List.filter_filter, List.filter_filter]
    refine congrArg _ (List.filter_congr fun x _ => ?_)
    rw [Bool.true_and, Bool.and_comm]
theorem stage (k : Nat) : ((allS k).filter (pathB w)).flatMap (outW (aftW w)) = (allS (k + 1)).filter (pathB w) := by
  have h := all_ok k
  show _ = ((allS k).flatMap nextS).filter (pathB w)
  generalize allS k = xs at h
  induction xs with
  | nil => rfl
  | cons s xs ih =>
    rw [List.flatMap_cons, List.filter_append, next_out (h s (List.mem_cons_self ..)), ← ih fun t m => h t (List.mem_cons_of_mem _ m), List.filter_cons]
    cases pathB w s with
    | true => rw [if_pos rfl, List.flatMap_cons, cond_true]
    | false => rw [if_neg Bool.false_ne_true, cond_false, List.nil_append]
end
end
noncomputable section
open PySem PySem.W PyProof.Rows PyProof.Rows.LSm PySem.Spec PyProof.V PySem.Calls
section
variable {w : Nat → Bool}
noncomputable def stg (w : Nat → Bool) (k : Nat) : List (List Nat) := (allS k).filter (pathB w)
theorem ways_go (A : List (List Nat)) (f : Nat → List (List Nat)) (h : ∀ k, (f k).flatMap (outW A) = f (k + 1)) : ∀ (js : List Nat) (k : Nat) (l : List Int), (js.foldl (waysS A) (f k, l)).2 = l ++ (List.range js.length).map fun q => ((f (k + q)).length : Int) := fun js => by
  induction js with
  | nil => intro k l; exact (List.append_nil _).symm
  | cons j js ih =>
    intro k l
    have e : waysS A (f k, l) j = (f (k + 1), l ++ [((f k).length : Int)]) := by unfold waysS; rw [h k]
    rw [List.foldl_cons, e, ih (k + 1), List.length_cons, List.range_succ_eq_map, List.map_cons, List.map_map, List.append_assoc]
    refine congrArg (l ++ ·) (congrArg (((f k).length : Int) :: ·) (List.map_congr_left fun q _ => ?_))
    show ((f (k + 1 + q)).length : Int) = ((f (k + (q + 1))).length : Int)
    rw [show k + 1 + q = k + (q + 1) by (first | (simp +arith only; done) | lia | omega)]
theorem ways_eq : waysF (aftW w) = (List.range 6).map fun k => (((allS k).countP (pathB w) : Nat) : Int) := by
  have h0 : (List.range 6).map (fun i => [i]) = stg w 0 := by kernel_rfl
  unfold waysF
  rw [h0]
  refine (ways_go (aftW w) (stg w) (fun k => stage k) (List.range 6) 0 []).trans ?_
  rw [List.nil_append, List.length_range]
  refine List.map_congr_left fun k _ => ?_
  rw [Nat.zero_add, List.countP_eq_length_filter]
  rfl
end
end
noncomputable section
open PySem PySem.W PyProof.Rows PyProof.Rows.LSm PySem.Spec PyProof.V PySem.Calls
section
variable {α β : Type} {w : Nat → Bool}
theorem len_fm {xs : List α} {p : α → Bool} {f : α → List β} : ((xs.filter p).flatMap f).length = (xs.map fun a => bif p a then (f a).length else 0).sum := by
  induction xs with
  | nil => rfl
  | cons a xs ih =>
    rw [List.map_cons, List.sum_cons, ← ih, List.filter_cons]
    cases p a with
    | true => rw [if_pos rfl, cond_true, List.flatMap_cons, List.length_append]
    | false => rw [if_neg Bool.false_ne_true, cond_false, Nat.zero_add]
theorem cnt_fm {xs : List α} {f : α → List β} {q : β → Bool} : (xs.flatMap f).countP q = (xs.map fun a => (f a).countP q).sum := by
  induction xs with
  | nil => rfl
  | cons a xs ih => rw [List.flatMap_cons, List.countP_append, List.map_cons, List.sum_cons, ih]
theorem cnt_bif {xs : List α} {p : Bool} {q : α → Bool} : (bif p then xs.countP q else 0) = xs.countP fun a => p && q a := by
  cases p with
  | true => simp
  | false => simp
theorem gr_at {m : Nat} (h : m < 6) : (grF (aftW w))[m]! = (rowB6 w m).filter fun k : Nat => decide ((m : Int) < k) := by
  exact six (p := fun m => (grF (aftW w))[m]! = (rowB6 w m).filter fun k : Nat => decide ((m : Int) < k)) (by kernel_rfl) (by kernel_rfl) (by kernel_rfl) (by kernel_rfl) (by kernel_rfl) (by kernel_rfl) m h
end
end
noncomputable section
open PySem PySem.W PyProof.Rows PyProof.Rows.LSm PySem.Spec PyProof.V PySem.Calls
section
variable {w : Nat → Bool}
theorem row_contains {c a : Nat} (ha : a < 6) : (rowB6 w c).contains a = beats w c a := by
  unfold rowB6
  rw [List.contains_eq_mem]
  cases h : beats w c a with
  | true => simp [h, ha]
  | false => simp [h]
theorem len_fm0 {α β : Type} {xs : List α} {f : α → List β} : (xs.flatMap f).length = (xs.map fun a => (f a).length).sum := List.length_flatMap ..
theorem gr_row {m : Nat} (h : m < 6) : (grF (aftW w))[m]! = (List.range 6).filter fun k : Nat => beats w m k && decide ((m : Int) < k) := by
  rw [gr_at h, rowB6, List.filter_filter]
  exact List.filter_congr fun k _ => Bool.and_comm _ _
noncomputable def triQ (w : Nat → Bool) (s : Nat × Nat × Nat) : Bool := (beats w s.1 s.2.1 && decide ((s.1 : Int) < s.2.1)) && (beats w s.2.1 s.2.2 && (decide ((s.1 : Int) < s.2.2) && beats w s.2.2 s.1))
noncomputable def L3 : List (Nat × Nat × Nat) := (List.range 6).flatMap fun a => (List.range 6).flatMap fun b => (List.range 6).map fun c => (a, b, c)
theorem tri_eq : (triF (aftW w)).length = L3.countP (triQ w) := by
  unfold triF L3
  rw [len_fm0, cnt_fm]
  refine congrArg List.sum (List.map_congr_left fun a ha => ?_)
  have ha := List.mem_range.mp ha
  rw [gr_row ha, len_fm, cnt_fm]
  refine congrArg List.sum (List.map_congr_left fun b hb => ?_)
  have hb := List.mem_range.mp hb
  rw [aftW_at hb, List.length_map, List.countP_map, rowB6, List.filter_filter, ← List.countP_eq_length_filter, cnt_bif]
  refine List.countP_congr fun c hc => ?_
  have hc := List.mem_range.mp hc
  unfold triP triQ
  rw [aftW_at hc, row_contains ha]
  show _ ↔ ((beats w a b && decide ((a : Int) < b)) && (beats w b c && (decide ((a : Int) < c) && beats w c a))) = true
  rw [Bool.and_comm (beats w b c)]
end
end
noncomputable section
open PySem PySem.W PyProof.Rows PyProof.Rows.LSm PySem.Spec PyProof.V PySem.Calls
section
variable {w : Nat → Bool}
noncomputable def fivQ (w : Nat → Bool) (s : Nat × Nat × Nat × Nat × Nat) : Bool := (beats w s.1 s.2.1 && decide ((s.1 : Int) < s.2.1)) && ((decide ((s.1 : Int) < s.2.2.1) && beats w s.2.1 s.2.2.1) && ((fivD s.1 s.2.1 s.2.2.2.1 && beats w s.2.2.1 s.2.2.2.1) && ((decide ((s.1 : Int) < s.2.2.2.2) && ((!([s.2.1, s.2.2.1].contains s.2.2.2.2)) && beats w s.2.2.2.2 s.1)) && beats w s.2.2.2.1 s.2.2.2.2)))
noncomputable def L5 : List (Nat × Nat × Nat × Nat × Nat) := (List.range 6).flatMap fun a => (List.range 6).flatMap fun b => (List.range 6).flatMap fun c => (List.range 6).flatMap fun d => (List.range 6).map fun e => (a, b, c, d, e)
theorem sum_bif {α : Type} {xs : List α} {p : Bool} {f : α → Nat} : (bif p then (xs.map f).sum else 0) = (xs.map fun a => bif p then f a else 0).sum := by
  cases p with
  | true => rfl
  | false =>
    induction xs with
    | nil => rfl
    | cons a xs ih => rw [List.map_cons (f := fun a => bif false then f a else 0), List.sum_cons, ← ih]; rfl
theorem fiv_eq : (fivF (aftW w)).length = L5.countP (fivQ w) := by
  unfold fivF L5
  rw [len_fm0, cnt_fm]
  refine congrArg List.sum (List.map_congr_left fun a ha => ?_)
  have ha := List.mem_range.mp ha
  rw [gr_row ha, len_fm, cnt_fm]
  refine congrArg List.sum (List.map_congr_left fun b hb => ?_)
  have hb := List.mem_range.mp hb
  rw [aftW_at hb, rowB6, List.filter_filter, len_fm, cnt_fm, sum_bif]
  refine congrArg List.sum (List.map_congr_left fun c hc => ?_)
  have hc := List.mem_range.mp hc
  rw [aftW_at hc, rowB6, List.filter_filter, len_fm, cnt_fm, sum_bif, sum_bif]
  refine congrArg List.sum (List.map_congr_left fun d hd => ?_)
  have hd := List.mem_range.mp hd
  rw [aftW_at hd, List.length_map, rowB6, List.filter_filter, ← List.countP_eq_length_filter, List.countP_map, cnt_bif, cnt_bif, cnt_bif]
  refine List.countP_congr fun e he => ?_
  have he := List.mem_range.mp he
  unfold fivE
  rw [aftW_at he, row_contains ha]
  exact Iff.rfl
end
end
noncomputable section
open PySem PySem.W PyProof.Rows PyProof.Rows.LSm PySem.Spec PyProof.V PySem.Calls
section
variable {w : Nat → Bool}
noncomputable def toL (s : Nat × Nat × Nat) : List Nat := [s.1, s.2.1, s.2.2]
theorem fm_filter {α β : Type} {xs : List α} {p : α → Bool} {f : α → List β} : (xs.filter p).flatMap f = xs.flatMap fun a => bif p a then f a else [] := by
  induction xs with
  | nil => rfl
  | cons a xs ih =>
    rw [List.flatMap_cons, ← ih, List.filter_cons]
    cases p a with
    | true => rw [if_pos rfl, cond_true, List.flatMap_cons]
    | false => rw [if_neg Bool.false_ne_true, cond_false, List.nil_append]
theorem fm_congr {α β : Type} {xs : List α} {f g : α → List β} (h : ∀ a ∈ xs, f a = g a) : xs.flatMap f = xs.flatMap g := by
  induction xs with
  | nil => rfl
  | cons a xs ih => rw [List.flatMap_cons, List.flatMap_cons, h a (List.mem_cons_self ..), ih fun b m => h b (List.mem_cons_of_mem _ m)]
theorem tri_list : triF (aftW w) = (L3.filter (triQ w)).map toL := by
  unfold triF L3
  rw [List.filter_flatMap, List.map_flatMap]
  refine fm_congr fun a ha => ?_
  have ha := List.mem_range.mp ha
  rw [gr_row ha, fm_filter, List.filter_flatMap, List.map_flatMap]
  refine fm_congr fun b hb => ?_
  have hb := List.mem_range.mp hb
  rw [aftW_at hb, rowB6, List.filter_filter, List.filter_map, List.map_map]
  have e : (List.range 6).filter (triQ w ∘ fun c => (a, b, c)) = bif beats w a b && decide ((a : Int) < b) then (List.range 6).filter (fun c => triP (aftW w) a c && beats w b c) else [] := by
    cases h : beats w a b && decide ((a : Int) < b) with
    | false =>
      rw [cond_false]
      refine List.filter_eq_nil_iff.mpr fun c _ => ?_
      show ¬((beats w a b && decide ((a : Int) < b)) && _) = true
      rw [h, Bool.false_and]
      exact Bool.false_ne_true
    | true =>
      rw [cond_true]
      refine List.filter_congr fun c hc => ?_
      have hc := List.mem_range.mp hc
      show ((beats w a b && decide ((a : Int) < b)) && (beats w b c && (decide ((a : Int) < c) && beats w c a))) = _
      rw [h, Bool.true_and, triP, aftW_at hc, row_contains ha, Bool.and_comm]
  rw [e]
  cases beats w a b && decide ((a : Int) < b) <;> rfl
end
end
noncomputable section
open PySem PySem.W PyProof.Rows PyProof.Rows.LSm PySem.Spec PyProof.V PySem.Calls
section
variable {w : Nat → Bool}
noncomputable def statT (s : Nat × Nat × Nat) : Bool := Nat.blt s.1 s.2.1 && (Nat.blt s.1 s.2.2 && !(Nat.beq s.2.1 s.2.2))
noncomputable def L3s : List (Nat × Nat × Nat) := L3.filter statT
noncomputable def L33s : List ((Nat × Nat × Nat) × (Nat × Nat × Nat)) := L3s.flatMap fun s => (L3s.filter fun t => twoP (toL s) (toL t)).map fun t => (s, t)
theorem beats_self {i : Nat} : beats w i i = false := by
  unfold beats
  have h : Nat.blt i i = false := Bool.eq_false_iff.mpr fun h => Nat.lt_irrefl _ (Nat.blt_eq.mp h)
  rw [h, cond_false, cond_false]
theorem beats_ne {i k : Nat} (h : beats w i k = true) : Nat.beq i k = false :=
  Bool.eq_false_iff.mpr fun e => by rw [Nat.eq_of_beq_eq_true e, beats_self] at h; exact Bool.false_ne_true h
theorem lt_blt {a b : Nat} : decide ((a : Int) < b) = Nat.blt a b := by
  by_cases h : a < b
  · rw [Nat.blt_eq.mpr h]; exact decide_eq_true (Int.ofNat_lt.mpr h)
  · rw [Bool.eq_false_iff.mpr fun e => h (Nat.blt_eq.mp e)]; exact decide_eq_false fun e => h (Int.ofNat_lt.mp e)
theorem tri_stat (s : Nat × Nat × Nat) (h : triQ w s = true) : statT s = true := by
  unfold triQ at h
  simp only [Bool.and_eq_true, lt_blt] at h
  obtain ⟨⟨_, h1⟩, h2, h3, _⟩ := h
  unfold statT
  rw [h1, h3, beats_ne h2]
  rfl
theorem tri_s : L3.filter (triQ w) = L3s.filter (triQ w) := by
  unfold L3s
  rw [List.filter_filter]
  refine List.filter_congr fun s _ => ?_
  cases h : triQ w s with
  | true => rw [tri_stat s h]; rfl
  | false => rfl
noncomputable def twoQ (w : Nat → Bool) (p : (Nat × Nat × Nat) × (Nat × Nat × Nat)) : Bool := triQ w p.1 && triQ w p.2
theorem two_eq : (twoF (triF (aftW w))).length = L33s.countP (twoQ w) := by
  rw [tri_list, tri_s]
  unfold twoF L33s
  rw [cnt_fm]
  generalize L3s = X
  generalize hY : (X.filter (triQ w)).map toL = Y
  rw [len_fm0, ← hY, List.map_map]
  have e : ∀ (g : Nat × Nat × Nat → Nat), ((X.filter (triQ w)).map g).sum = (X.map fun a => bif triQ w a then g a else 0).sum := fun g => by
    clear hY
    induction X with
    | nil => rfl
    | cons a X ih =>
      rw [List.map_cons (f := fun a => bif triQ w a then g a else 0), List.sum_cons, ← ih, List.filter_cons]
      cases triQ w a with
      | true => rfl
      | false => exact (Nat.zero_add _).symm
  rw [e]
  refine congrArg List.sum (List.map_congr_left fun s _ => ?_)
  show (bif triQ w s then ((((X.filter (triQ w)).map toL).filter fun other => twoP (toL s) other).map fun _ => (0 : Int)).length else 0) = _
  rw [List.length_map, ← List.countP_eq_length_filter, List.countP_map, List.countP_map, List.countP_filter, List.countP_filter, cnt_bif]
  refine List.countP_congr fun t _ => ?_
  show (triQ w s && (twoP (toL s) (toL t) && triQ w t)) = true ↔ ((triQ w s && triQ w t) && twoP (toL s) (toL t)) = true
  rw [Bool.and_assoc, Bool.and_comm (triQ w t)]
end
end
noncomputable section
open PySem PySem.W PyProof.Rows PyProof.Rows.LSm PySem.Spec PyProof.V PySem.Calls
section
noncomputable def tab : Nat → Nat → Nat
  | 0, _ => 0
  | n + 1, j => bif j == n then (2 ^ 2 ^ n - 1) <<< 2 ^ n else tab n j ||| (tab n j <<< 2 ^ n)
theorem tab_lt : ∀ n j, tab n j < 2 ^ 2 ^ n := fun n => by
  induction n with
  | zero => intro j; exact Nat.pow_pos (by decide)
  | succ n ih =>
    intro j
    have e : 2 ^ 2 ^ (n + 1) = 2 ^ 2 ^ n * 2 ^ 2 ^ n := by rw [← Nat.pow_add, Nat.pow_succ, Nat.mul_two]
    have hp : 0 < 2 ^ 2 ^ n := Nat.pow_pos (by decide)
    unfold tab
    cases j == n with
    | true =>
      rw [cond_true, Nat.shiftLeft_eq, e]
      exact Nat.mul_lt_mul_of_pos_right (by omega) hp
    | false =>
      rw [cond_false]
      refine Nat.or_lt_two_pow (Nat.lt_of_lt_of_le (ih j) (Nat.pow_le_pow_right (by decide) (Nat.pow_le_pow_right (by decide) (Nat.le_succ n)))) ?_
      rw [Nat.shiftLeft_eq, e]
      exact Nat.mul_lt_mul_of_pos_right (ih j) hp
theorem tab_bit : ∀ n j m, j < n → m < 2 ^ n → (tab n j).testBit m = m.testBit j := fun n => by
  induction n with
  | zero => intro j m h; exact absurd h (Nat.not_lt_zero j)
  | succ n ih =>
    intro j m hj hm
    have e : 2 ^ (n + 1) = 2 ^ n + 2 ^ n := by rw [Nat.pow_succ, Nat.mul_two]
    unfold tab
    by_cases h : j = n
    · subst h
      rw [beq_self_eq_true, cond_true, Nat.testBit_shiftLeft, Nat.testBit_two_pow_sub_one]
      by_cases hb : m < 2 ^ j
      · rw [Nat.testBit_lt_two_pow hb, decide_eq_false (Nat.not_le_of_lt hb), Bool.false_and]
      · have hle := Nat.le_of_not_lt hb
        have hlt := Nat.sub_lt_left_of_lt_add hle (e ▸ hm)
        rw [decide_eq_true hle, decide_eq_true hlt]
        have q : m = 2 ^ j + (m - 2 ^ j) := (Nat.add_sub_cancel' hle).symm
        rw [q, Nat.testBit_two_pow_add_eq, Nat.testBit_lt_two_pow hlt]
        rfl
    · have hj := Nat.lt_of_le_of_ne (Nat.le_of_lt_succ hj) h
      rw [beq_false_of_ne h, cond_false, Nat.testBit_or, Nat.testBit_shiftLeft]
      by_cases hb : m < 2 ^ n
      · rw [ih j m hj hb, decide_eq_false (Nat.not_le_of_lt hb), Bool.false_and, Bool.or_false]
      · have hle := Nat.le_of_not_lt hb
        have hlt := Nat.sub_lt_left_of_lt_add hle (e ▸ hm)
        rw [decide_eq_true hle, Bool.true_and, ih j (m - 2 ^ n) hj hlt, Nat.testBit_lt_two_pow (Nat.lt_of_lt_of_le (tab_lt n j) (Nat.pow_le_pow_right (by decide) hle))]
        have q : m = 2 ^ n + (m - 2 ^ n) := (Nat.add_sub_cancel' hle).symm
        rw [Bool.false_or]
        conv => rhs; rw [q]
        exact (Nat.testBit_two_pow_add_gt hj _).symm
end
end
noncomputable section
open PySem PySem.W PyProof.Rows PyProof.Rows.LSm PySem.Spec PyProof.V PySem.Calls
section
noncomputable def onesT : Nat := 2 ^ 2 ^ 15 - 1
noncomputable def edgeT (i k : Nat) : Nat := bif Nat.blt i k then tab 15 (ix i k) else bif Nat.blt k i then onesT ^^^ tab 15 (ix k i) else 0
noncomputable def AgreeT (w : Nat → Bool) (m : Nat) : Prop := m < 2 ^ 15 ∧ ∀ j < 15, m.testBit j = w j
theorem ones_bit {m : Nat} (h : m < 2 ^ 15) : onesT.testBit m = true := by
  unfold onesT
  rw [Nat.testBit_two_pow_sub_one]
  exact decide_eq_true h
theorem ix_lt : ∀ i < 6, ∀ k < 6, i < k → ix i k < 15 := by decide +kernel
theorem edge_bit {w : Nat → Bool} {m : Nat} (h : AgreeT w m) {i k : Nat} (hi : i < 6) (hk : k < 6) : (edgeT i k).testBit m = beats w i k := by
  unfold edgeT beats
  cases h1 : Nat.blt i k with
  | true =>
    have q := ix_lt i hi k hk (Nat.blt_eq.mp h1)
    rw [cond_true, cond_true, tab_bit 15 _ m q h.1, h.2 _ q]
  | false =>
    rw [cond_false, cond_false]
    cases h2 : Nat.blt k i with
    | true =>
      have q := ix_lt k hk i hi (Nat.blt_eq.mp h2)
      rw [cond_true, cond_true, Nat.testBit_xor, ones_bit h.1, tab_bit 15 _ m q h.1, h.2 _ q, Bool.true_xor]
    | false => exact Nat.zero_testBit m
noncomputable def bitsT (w : Nat → Bool) : Nat → Nat
  | 0 => 0
  | n + 1 => bif w n then 2 ^ n + bitsT w n else bitsT w n
theorem bitsT_ok (w : Nat → Bool) : ∀ n, bitsT w n < 2 ^ n ∧ ∀ j < n, (bitsT w n).testBit j = w j := fun n => by
  induction n with
  | zero => exact ⟨Nat.one_pos, fun j h => absurd h (Nat.not_lt_zero j)⟩
  | succ n ih =>
    have e : 2 ^ (n + 1) = 2 ^ n + 2 ^ n := by rw [Nat.pow_succ, Nat.mul_two]
    show (bif w n then 2 ^ n + bitsT w n else bitsT w n) < _ ∧ ∀ j < n + 1, (bif w n then 2 ^ n + bitsT w n else bitsT w n).testBit j = w j
    cases hw : w n with
    | true =>
      rw [cond_true]
      refine ⟨by omega, fun j hj => ?_⟩
      by_cases q : j = n
      · subst q; rw [Nat.testBit_two_pow_add_eq, Nat.testBit_lt_two_pow ih.1, hw]; rfl
      · rw [Nat.testBit_two_pow_add_gt (by omega), ih.2 j (by omega)]
    | false =>
      rw [cond_false]
      refine ⟨by omega, fun j hj => ?_⟩
      by_cases q : j = n
      · subst q; rw [Nat.testBit_lt_two_pow ih.1, hw]
      · exact ih.2 j (by omega)
theorem agree_of (w : Nat → Bool) : AgreeT w (bitsT w 15) := bitsT_ok w 15
noncomputable def addC : List Nat → Nat → List Nat
  | [], c => [c]
  | a :: r, c => (a ^^^ c) :: addC r (a &&& c)
noncomputable def addV : List Nat → List Nat → Nat → List Nat
  | [], v, c => addC v c
  | a :: r, v, c => match v with
    | [] => (a ^^^ c) :: addC r (a &&& c)
    | b :: s => ((a ^^^ b) ^^^ c) :: addV r s ((a &&& b) ||| (c &&& (a ^^^ b)))
theorem half : ∀ b c : Bool, (b ^^ c).toNat + 2 * (b && c).toNat = b.toNat + c.toNat := by decide
theorem full : ∀ a b c : Bool, ((a ^^ b) ^^ c).toNat + 2 * ((a && b) || (c && (a ^^ b))).toNat = (a.toNat + b.toNat) + c.toNat := by decide
theorem sl4 {p q x y z : Nat} (h : p + 2 * q = x + z) : p + 2 * (y + q) = x + 2 * y + z := by rw [Nat.mul_add, Nat.add_comm (2 * y), ← Nat.add_assoc, h, Nat.add_right_comm]
theorem sl5 {p q x x' y y' z : Nat} (h : p + 2 * q = (x + x') + z) : p + 2 * ((y + y') + q) = (x + 2 * y) + (x' + 2 * y') + z := by rw [sl4 h, Nat.mul_add, Nat.add_add_add_comm]
theorem val_addC {m : Nat} : ∀ (v : List Nat) (c : Nat), val (addC v c) m = val v m + (c.testBit m).toNat := fun v => by
  induction v with
  | nil => intro c; exact (Nat.add_zero _).trans (Nat.zero_add _).symm
  | cons b s ih =>
    intro c
    show ((b ^^^ c).testBit m).toNat + 2 * val (addC s (b &&& c)) m = _
    rw [ih, Nat.testBit_xor, Nat.testBit_and]
    exact sl4 (half _ _)
theorem val_addV {m : Nat} : ∀ (u v : List Nat) (c : Nat), val (addV u v c) m = val u m + val v m + (c.testBit m).toNat := fun u => by
  induction u with
  | nil => intro v c; show val (addC v c) m = 0 + val v m + _; rw [val_addC, Nat.zero_add]
  | cons a r ih =>
    intro v c
    cases v with
    | nil => exact val_addC (a :: r) c
    | cons b s =>
      show (((a ^^^ b) ^^^ c).testBit m).toNat + 2 * val (addV r s ((a &&& b) ||| (c &&& (a ^^^ b)))) m = _
      rw [ih, Nat.testBit_xor, Nat.testBit_xor, Nat.testBit_or, Nat.testBit_and, Nat.testBit_and, Nat.testBit_xor]
      exact sl5 (full _ _ _)
noncomputable def allZ : List Nat → Bool
  | [] => true
  | a :: r => Nat.beq a 0 && allZ r
noncomputable def eqW : List Nat → List Nat → Bool
  | [], v => allZ v
  | a :: r, v => match v with
    | [] => Nat.beq a 0 && allZ r
    | b :: s => Nat.beq a b && eqW r s
theorem val_allZ {m : Nat} : ∀ {v : List Nat}, allZ v = true → val v m = 0 := fun {v} => by
  induction v with
  | nil => intro _; rfl
  | cons a r ih =>
    intro h
    have h := Bool.and_eq_true_iff.mp h
    show (a.testBit m).toNat + 2 * val r m = 0
    rw [Nat.eq_of_beq_eq_true h.1, ih h.2, Nat.zero_testBit]
    rfl
theorem val_eqW {m : Nat} : ∀ {u v : List Nat}, eqW u v = true → val u m = val v m := fun {u} => by
  induction u with
  | nil => intro v h; exact (val_allZ h).symm
  | cons a r ih =>
    intro v h
    cases v with
    | nil => exact val_allZ (v := a :: r) h
    | cons b s =>
      have h := Bool.and_eq_true_iff.mp h
      show (a.testBit m).toNat + 2 * val r m = (b.testBit m).toNat + 2 * val s m
      rw [Nat.eq_of_beq_eq_true h.1, ih h.2]
noncomputable def pairV : List (List Nat) → List (List Nat)
  | a :: b :: r => addV a b 0 :: pairV r
  | l => l
noncomputable def foldV : Nat → List (List Nat) → List Nat
  | 0, l => l.foldl (fun u v => addV u v 0) []
  | n + 1, l => foldV n (pairV l)
noncomputable def valS (l : List (List Nat)) (m : Nat) : Nat := (l.map fun v => val v m).sum
theorem val_pairV {m : Nat} : ∀ l : List (List Nat), valS (pairV l) m = valS l m
  | [] => rfl
  | [_] => rfl
  | a :: b :: r => by
    have e := val_pairV (m := m) r
    unfold valS at e ⊢
    unfold pairV
    rw [List.map_cons, List.map_cons, List.map_cons, List.sum_cons, List.sum_cons, List.sum_cons, e, val_addV, Nat.zero_testBit, Bool.toNat_false, Nat.add_zero]
    exact Nat.add_assoc _ _ _
theorem val_foldV {m : Nat} : ∀ (n : Nat) (l : List (List Nat)), val (foldV n l) m = valS l m := fun n => by
  induction n with
  | zero =>
    intro l
    have q : ∀ (l : List (List Nat)) (u : List Nat), val (l.foldl (fun u v => addV u v 0) u) m = val u m + valS l m := fun l => by
      induction l with
      | nil => intro u; rfl
      | cons a l ih =>
        intro u
        rw [List.foldl_cons, ih, val_addV, Nat.zero_testBit, Bool.toNat_false, Nat.add_zero]
        unfold valS
        rw [List.map_cons, List.sum_cons]
        exact Nat.add_assoc _ _ _
    exact (q l []).trans (Nat.zero_add _)
  | succ n ih => intro l; exact (ih (pairV l)).trans (val_pairV l)
noncomputable def sumT (xs : List Nat) : List Nat := foldV 10 (xs.map fun x => [x])
theorem val_sumT {m : Nat} (xs : List Nat) : val (sumT xs) m = xs.countP fun x => x.testBit m := by
  unfold sumT
  rw [val_foldV]
  unfold valS
  induction xs with
  | nil => rfl
  | cons x xs ih =>
    rw [List.map_cons, List.map_cons, List.sum_cons, ih, List.countP_cons]
    show ((x.testBit m).toNat + 2 * 0) + xs.countP _ = _
    cases x.testBit m with
    | true => exact Nat.add_comm _ _
    | false => exact Nat.zero_add _
end
end
noncomputable section
open PySem PySem.W PyProof.Rows PyProof.Rows.LSm PySem.Spec PyProof.V PySem.Calls
section
noncomputable def pathT : List Nat → Nat
  | [] => onesT
  | a :: r => match r with
    | [] => onesT
    | b :: _ => edgeT a b &&& pathT r
noncomputable def triT (s : Nat × Nat × Nat) : Nat := (edgeT s.1 s.2.1 &&& edgeT s.2.1 s.2.2) &&& edgeT s.2.2 s.1
noncomputable def fivT (s : Nat × Nat × Nat × Nat × Nat) : Nat := ((edgeT s.1 s.2.1 &&& edgeT s.2.1 s.2.2.1) &&& edgeT s.2.2.1 s.2.2.2.1) &&& (edgeT s.2.2.2.1 s.2.2.2.2 &&& edgeT s.2.2.2.2 s.1)
noncomputable def statF (s : Nat × Nat × Nat × Nat × Nat) : Bool := (Nat.blt s.1 s.2.1 && (Nat.blt s.1 s.2.2.1 && (Nat.blt s.1 s.2.2.2.1 && Nat.blt s.1 s.2.2.2.2))) && ((!(Nat.beq s.2.1 s.2.2.1) && !(Nat.beq s.2.1 s.2.2.2.1)) && (!(Nat.beq s.2.2.1 s.2.2.2.1) && (!(Nat.beq s.2.2.2.2 s.2.1) && (!(Nat.beq s.2.2.2.2 s.2.2.1) && !(Nat.beq s.2.2.2.2 s.2.2.2.1)))))
noncomputable def L5s : List (Nat × Nat × Nat × Nat × Nat) := L5.filter statF
noncomputable def pathV (k : Nat) : List Nat := sumT ((allS k).map pathT)
noncomputable def triV : List Nat := sumT (L3s.map triT)
noncomputable def fivV : List Nat := sumT (L5s.map fivT)
noncomputable def twoV : List Nat := sumT (L33s.map fun p => triT p.1 &&& triT p.2)
noncomputable def sh (u v : List Nat) : List Nat := addV (0 :: u) v 0
theorem w0 : eqW (pathV 0) [0, onesT, onesT] = true := by kernel_rfl
theorem w1 : eqW (pathV 1) [onesT, onesT, onesT, onesT] = true := by kernel_rfl
theorem w2 : eqW (pathV 2) (sh triV [0, 0, onesT, 0, onesT]) = true := by kernel_rfl
theorem w3 : eqW (pathV 3) (sh (sh triV triV) [onesT, onesT, onesT, onesT]) = true := by kernel_rfl
theorem w4 : eqW (pathV 4) (sh (addV (sh triV triV) fivV 0) [0, onesT, onesT]) = true := by kernel_rfl
theorem w5 : eqW (pathV 5) (sh (addV (sh twoV triV) fivV 0) [onesT]) = true := by kernel_rfl
end
end
noncomputable section
open PySem PySem.W PyProof.Rows PyProof.Rows.LSm PySem.Spec PyProof.V PySem.Calls
section
variable {w : Nat → Bool}
theorem ne_beq {a b : Nat} : ((a : Int) != b) = !Nat.beq a b := by
  cases h : Nat.beq a b with
  | true => rw [Nat.eq_of_beq_eq_true h]; simp
  | false => exact bne_iff_ne.mpr fun e => Nat.ne_of_beq_eq_false h (Int.ofNat_inj.mp e)
theorem all_lt : ∀ k, ∀ s ∈ allS k, ∀ x ∈ s, x < 6 := fun k => by
  induction k with
  | zero => decide +kernel
  | succ k ih =>
    intro s hs x hx
    obtain ⟨t, ht, hs⟩ := List.mem_flatMap.mp hs
    obtain ⟨one, ho, rfl⟩ := List.mem_map.mp hs
    rcases List.mem_append.mp hx with h | h
    · exact ih t ht x h
    · rw [List.mem_singleton.mp h]; exact List.mem_range.mp (List.mem_filter.mp ho).1
theorem path_bit {m : Nat} (A : AgreeT w m) : ∀ s : List Nat, (∀ x ∈ s, x < 6) → (pathT s).testBit m = pathB w s := fun s => by
  induction s with
  | nil => intro _; exact ones_bit A.1
  | cons a r ih =>
    intro h
    cases r with
    | nil => exact ones_bit A.1
    | cons b r =>
      show (edgeT a b &&& pathT (b :: r)).testBit m = (beats w a b && pathB w (b :: r))
      rw [Nat.testBit_and, edge_bit A (h a (List.mem_cons_self ..)) (h b (List.mem_cons_of_mem _ (List.mem_cons_self ..))), ih fun x q => h x (List.mem_cons_of_mem _ q)]
theorem cnt_map {α : Type} {m : Nat} {xs : List α} {f : α → Nat} {q : α → Bool} (h : ∀ a ∈ xs, (f a).testBit m = q a) : val (sumT (xs.map f)) m = xs.countP q := by
  rw [val_sumT, List.countP_map]
  exact List.countP_congr fun a ha => by show (f a).testBit m = true ↔ _; rw [h a ha]
theorem cnt_stat {α : Type} {xs : List α} {st q : α → Bool} (h : ∀ a, q a = true → st a = true) : (xs.filter st).countP q = xs.countP q := by
  rw [List.countP_filter]
  exact List.countP_congr fun a _ => ⟨fun e => (Bool.and_eq_true_iff.mp e).1, fun e => Bool.and_eq_true_iff.mpr ⟨e, h a e⟩⟩
theorem L3_lt : ∀ s ∈ L3, s.1 < 6 ∧ s.2.1 < 6 ∧ s.2.2 < 6 := fun s hs => by
  obtain ⟨a, ha, hs⟩ := List.mem_flatMap.mp hs
  obtain ⟨b, hb, hs⟩ := List.mem_flatMap.mp hs
  obtain ⟨c, hc, rfl⟩ := List.mem_map.mp hs
  exact ⟨List.mem_range.mp ha, List.mem_range.mp hb, List.mem_range.mp hc⟩
theorem L5_lt : ∀ s ∈ L5, s.1 < 6 ∧ s.2.1 < 6 ∧ s.2.2.1 < 6 ∧ s.2.2.2.1 < 6 ∧ s.2.2.2.2 < 6 := fun s hs => by
  obtain ⟨a, ha, hs⟩ := List.mem_flatMap.mp hs
  obtain ⟨b, hb, hs⟩ := List.mem_flatMap.mp hs
  obtain ⟨c, hc, hs⟩ := List.mem_flatMap.mp hs
  obtain ⟨d, hd, hs⟩ := List.mem_flatMap.mp hs
  obtain ⟨e, he, rfl⟩ := List.mem_map.mp hs
  exact ⟨List.mem_range.mp ha, List.mem_range.mp hb, List.mem_range.mp hc, List.mem_range.mp hd, List.mem_range.mp he⟩
theorem tri_bit {m : Nat} (A : AgreeT w m) (s : Nat × Nat × Nat) (hs : s ∈ L3s) : (triT s).testBit m = triQ w s := by
  obtain ⟨hs, h⟩ := List.mem_filter.mp hs
  have b := L3_lt s hs
  unfold statT at h
  have h := Bool.and_eq_true_iff.mp h
  have h2 := Bool.and_eq_true_iff.mp h.2
  unfold triT triQ
  rw [Nat.testBit_and, Nat.testBit_and, edge_bit A b.1 b.2.1, edge_bit A b.2.1 b.2.2, edge_bit A b.2.2 b.1, lt_blt, lt_blt, h.1, h2.1, Bool.and_true, Bool.true_and, Bool.and_assoc]
theorem fiv_stat (s : Nat × Nat × Nat × Nat × Nat) (h : fivQ w s = true) : statF s = true := by
  unfold fivQ fivD at h
  simp only [Bool.and_eq_true, lt_blt, ne_beq] at h
  obtain ⟨⟨_, h1⟩, ⟨h2, h3⟩, ⟨⟨h4, h5⟩, h6⟩, ⟨h7, h8, _⟩, h9⟩ := h
  have h8 : (s.2.2.2.2 ∈ [s.2.1, s.2.2.1]) → False := by simpa using h8
  have q1 : Nat.beq s.2.2.2.2 s.2.1 = false := Bool.eq_false_iff.mpr fun e => h8 (by rw [Nat.eq_of_beq_eq_true e]; exact List.mem_cons_self ..)
  have q2 : Nat.beq s.2.2.2.2 s.2.2.1 = false := Bool.eq_false_iff.mpr fun e => h8 (by rw [Nat.eq_of_beq_eq_true e]; exact List.mem_cons_of_mem _ (List.mem_cons_self ..))
  have q3 : Nat.beq s.2.2.2.2 s.2.2.2.1 = false := Bool.eq_false_iff.mpr fun e => by rw [Nat.eq_of_beq_eq_true e, beats_self] at h9; exact Bool.false_ne_true h9
  have q4 : Nat.beq s.2.1 s.2.2.2.1 = false := Bool.eq_false_iff.mpr fun e => by
    rw [← Nat.eq_of_beq_eq_true e] at h5
    rw [Nat.beq_refl] at h5
    exact Bool.false_ne_true h5
  unfold statF
  rw [h1, h2, h4, h7, beats_ne h3, beats_ne h6, q1, q2, q3, q4]
  rfl
theorem fiv_and : ∀ a b c d e : Bool, (((a && b) && c) && (d && e)) = ((a && true) && ((true && b) && (((true && !false) && c) && ((true && ((!false) && e)) && d)))) := by decide
theorem fiv_bit {m : Nat} (A : AgreeT w m) (s : Nat × Nat × Nat × Nat × Nat) (hs : s ∈ L5s) : (fivT s).testBit m = fivQ w s := by
  obtain ⟨hs, h⟩ := List.mem_filter.mp hs
  have b := L5_lt s hs
  unfold statF at h
  simp only [Bool.and_eq_true, Bool.not_eq_true'] at h
  obtain ⟨⟨h1, h2, h3, h4⟩, ⟨h5, h6⟩, h7, h8, h9, h10⟩ := h
  have e : [s.2.1, s.2.2.1].contains s.2.2.2.2 = false := by
    have q1 := Nat.ne_of_beq_eq_false h8
    have q2 := Nat.ne_of_beq_eq_false h9
    simp [q1, q2]
  have h6' : Nat.beq s.2.2.2.1 s.2.1 = false := Bool.eq_false_iff.mpr fun e => (Nat.ne_of_beq_eq_false h6) (Nat.eq_of_beq_eq_true e).symm
  unfold fivT fivQ fivD
  rw [Nat.testBit_and, Nat.testBit_and, Nat.testBit_and, Nat.testBit_and, edge_bit A b.1 b.2.1, edge_bit A b.2.1 b.2.2.1, edge_bit A b.2.2.1 b.2.2.2.1, edge_bit A b.2.2.2.1 b.2.2.2.2, edge_bit A b.2.2.2.2 b.1, lt_blt, lt_blt, lt_blt, lt_blt, ne_beq, h1, h2, h3, h4, h6', e]
  exact fiv_and _ _ _ _ _
theorem val_two {v u : List Nat} {m : Nat} : val (sh u v) m = 2 * val u m + val v m := by
  unfold sh
  rw [val_addV, Nat.zero_testBit]
  show (Nat.testBit 0 m).toNat + 2 * val u m + val v m + 0 = _
  rw [Nat.zero_testBit]
  show 0 + 2 * val u m + val v m = _
  (first | (simp +arith only; done) | lia | omega)
theorem val_ones {m : Nat} (h : m < 2 ^ 15) (r : List Nat) : val (onesT :: r) m = 1 + 2 * val r m := by
  show (onesT.testBit m).toNat + _ = _
  rw [ones_bit h]; rfl
theorem val_zero {m : Nat} (r : List Nat) : val (0 :: r) m = 2 * val r m := by
  show (Nat.testBit 0 m).toNat + _ = _
  rw [Nat.zero_testBit]
  exact Nat.zero_add _
theorem ways_due : waysF (aftW w) = dueF (aftW w) := by
  have A := agree_of w
  generalize bitsT w 15 = m at A
  have P : ∀ k, (allS k).countP (pathB w) = val (pathV k) m := fun k => (cnt_map fun s hs => path_bit A s (all_lt k s hs)).symm
  have e3 : val triV m = (triF (aftW w)).length := (cnt_map fun s hs => tri_bit A s hs).trans ((cnt_stat tri_stat).trans tri_eq.symm)
  have e5 : val fivV m = (fivF (aftW w)).length := (cnt_map fun s hs => fiv_bit A s hs).trans ((cnt_stat fiv_stat).trans fiv_eq.symm)
  have e2 : val twoV m = (twoF (triF (aftW w))).length := (cnt_map fun p hp => by
    obtain ⟨s, hs, hp⟩ := List.mem_flatMap.mp hp
    obtain ⟨t, ht, rfl⟩ := List.mem_map.mp hp
    rw [Nat.testBit_and, tri_bit A s hs, tri_bit A t (List.mem_filter.mp ht).1]
    rfl : val twoV m = L33s.countP (twoQ w)).trans two_eq.symm
  rw [ways_eq]
  unfold dueF
  rw [← e3, ← e5, ← e2]
  have q0 := (P 0).trans (val_eqW w0)
  have q1 := (P 1).trans (val_eqW w1)
  have q2 := (P 2).trans (val_eqW w2)
  have q3 := (P 3).trans (val_eqW w3)
  have q4 := (P 4).trans (val_eqW w4)
  have q5 := (P 5).trans (val_eqW w5)
  have z : val [] m = 0 := rfl
  simp only [val_zero, val_ones A.1, val_two, val_addV, Nat.zero_testBit, Bool.toNat_false, z] at q0 q1 q2 q3 q4 q5
  show [(((allS 0).countP (pathB w) : Nat) : Int), (((allS 1).countP (pathB w) : Nat) : Int), (((allS 2).countP (pathB w) : Nat) : Int), (((allS 3).countP (pathB w) : Nat) : Int), (((allS 4).countP (pathB w) : Nat) : Int), (((allS 5).countP (pathB w) : Nat) : Int)] = _
  rw [q0, q1, q2, q3, q4, q5]
  unfold dueG
  generalize val triV m = t
  generalize val fivV m = p
  generalize val twoV m = d
  refine congr (congrArg List.cons ?_) (congr (congrArg List.cons ?_) (congr (congrArg List.cons ?_) (congr (congrArg List.cons ?_) (congr (congrArg List.cons ?_) (congr (congrArg List.cons ?_) rfl))))) <;> (first | (simp +arith only; done) | lia | omega)
end
end
noncomputable section
open PySem PySem.W PyProof.Rows PyProof.Rows.LSm PySem.Spec PyProof.V PySem.Calls
section
open Builtin.Str
noncomputable def JL : List (List Nat) → List Nat
  | [] => []
  | a :: r => match r with
    | [] => a
    | _ :: _ => a ++ 44 :: 32 :: JL r
theorem sep_cps : (", " : Str).cps.toList = [44, 32] := by decide +kernel
theorem sep_len : (", " : Str).length = 2 := by decide +kernel
theorem join_JL : ∀ xs : List Str, (Str.join ", " xs).cps.toList = JL (xs.map fun x => x.cps.toList) := fun xs => by
  induction xs with
  | nil => rfl
  | cons x r ih =>
    cases r with
    | nil => rfl
    | cons y r =>
      show (x.cps ++ (", " : Str).cps ++ (Str.join ", " (y :: r)).cps).toList = x.cps.toList ++ 44 :: 32 :: JL ((y :: r).map fun x => x.cps.toList)
      rw [Array.toList_append, Array.toList_append, sep_cps, ih, List.append_assoc]
      rfl
theorem JL_sep : ∀ l : List (List Nat), (∀ a ∈ l, 44 ∉ a) → ∀ k : Nat, (JL l)[k]? = some 44 → ((JL l).drop k).take 2 = [44, 32] := fun l => by
  induction l with
  | nil => intro _ k h; cases h
  | cons a r ih =>
    intro hf k h
    have ha := hf a (List.mem_cons_self ..)
    cases r with
    | nil => exact absurd (List.mem_of_getElem? h) ha
    | cons b r =>
      have ih := ih fun x m => hf x (List.mem_cons_of_mem _ m)
      have h : (a ++ 44 :: 32 :: JL (b :: r))[k]? = some 44 := h
      show ((a ++ 44 :: 32 :: JL (b :: r)).drop k).take 2 = [44, 32]
      by_cases q : k < a.length
      · rw [List.getElem?_append_left q] at h; exact absurd (List.mem_of_getElem? h) ha
      · have e : k = a.length + (k - a.length) := by (first | (simp +arith only; done) | lia | omega)
        rw [List.getElem?_append_right (by (first | (simp +arith only; done) | lia | omega))] at h
        rw [e, List.drop_length_add_append]
        match k - a.length, h with
        | 0, _ => rfl
        | 1, h => exact absurd (Option.some.inj h) (by decide)
        | j + 2, h => exact ih j h
theorem app_inj : ∀ {a b X Y : List Nat}, 44 ∉ a → 44 ∉ b → a ++ 44 :: X = b ++ 44 :: Y → a = b ∧ X = Y := fun {a} => by
  induction a with
  | nil =>
    intro b X Y _ hb h
    cases b with
    | nil => exact ⟨rfl, (List.cons.inj h).2⟩
    | cons y b => exact absurd ((List.cons.inj h).1 ▸ List.mem_cons_self ..) hb
  | cons x a ih =>
    intro b X Y ha hb h
    cases b with
    | nil => exact absurd ((List.cons.inj h).1 ▸ List.mem_cons_self ..) ha
    | cons y b =>
      have h := List.cons.inj h
      have q := ih (fun m => ha (List.mem_cons_of_mem _ m)) (fun m => hb (List.mem_cons_of_mem _ m)) h.2
      exact ⟨congr (congrArg _ h.1) q.1, q.2⟩
theorem JL_inj : ∀ ps qs : List (List Nat), ps ≠ [] → qs ≠ [] → (∀ a ∈ ps, 44 ∉ a) → (∀ a ∈ qs, 44 ∉ a) → JL ps = JL qs → ps = qs := fun ps => by
  induction ps with
  | nil => intro _ h; exact absurd rfl h
  | cons a r ih =>
    intro qs _ hq f1 f2 h
    have ha := f1 a (List.mem_cons_self ..)
    cases qs with
    | nil => exact absurd rfl hq
    | cons b s =>
      have hb := f2 b (List.mem_cons_self ..)
      cases r with
      | nil => cases s with
        | nil => exact congrArg (fun x => [x]) (show a = b from h)
        | cons c s => exact absurd ((show a = b ++ 44 :: 32 :: JL (c :: s) from h) ▸ List.mem_append_right _ (List.mem_cons_self ..)) ha
      | cons d r => cases s with
        | nil => exact absurd ((show a ++ 44 :: 32 :: JL (d :: r) = b from h) ▸ List.mem_append_right _ (List.mem_cons_self ..)) hb
        | cons c s =>
          have q := app_inj ha hb (show a ++ 44 :: (32 :: JL (d :: r)) = b ++ 44 :: (32 :: JL (c :: s)) from h)
          exact congr (congrArg _ q.1) (ih (c :: s) (List.cons_ne_nil _ _) (List.cons_ne_nil _ _) (fun x m => f1 x (List.mem_cons_of_mem _ m)) (fun x m => f2 x (List.mem_cons_of_mem _ m)) (List.cons.inj q.2).2)
theorem len_cps (x : Str) : x.cps.toList.length = x.length := Array.length_toList ..
noncomputable def Seps (x : Str) : Prop := ∀ k : Nat, x.cps.toList[k]? = some 44 → StrLaws.At x ", " x.length k
theorem cut_free {x : Str} (H : Seps x) {a b : Nat} (_ : b ≤ x.length) (hn : ∀ k, a ≤ k → k < b → ¬ StrLaws.At x ", " x.length k) : 44 ∉ (strSub x a b).cps.toList := fun m => by
  rw [StrLaws.strSub_toList] at m
  obtain ⟨j, hj⟩ := List.getElem?_of_mem m
  have q : j < b - a := Nat.lt_of_lt_of_le (List.getElem?_eq_some_iff.mp hj).1 (List.length_take_le ..)
  rw [List.getElem?_take_of_lt q, List.getElem?_drop] at hj
  exact hn (a + j) (by (first | (simp +arith only; done) | lia | omega)) (by (first | (simp +arith only; done) | lia | omega)) (H _ hj)
theorem cuts_free {x : Str} (H : Seps x) : ∀ (cuts : List Nat) (a f : Nat), StrLaws.ChainG x ", " x.length a cuts f → (∀ k, f ≤ k → ¬ StrLaws.At x ", " x.length k) → ∀ p ∈ StrLaws.partsFrom x (", " : Str).length a cuts, 44 ∉ p.cps.toList := fun cuts => by
  induction cuts with
  | nil =>
    intro a f h hn p hp
    have e : f = a := h
    rw [List.mem_singleton.mp hp]
    exact cut_free H (Nat.le_refl _) fun k q _ => hn k (e ▸ q)
  | cons d r ih =>
    intro a f h hn p hp
    rcases List.mem_cons.mp hp with rfl | hp
    · exact cut_free H (by have := h.2.1.1; (first | (simp +arith only; done) | lia | omega)) h.2.2.1
    · exact ih _ f h.2.2.2 hn p hp
theorem seps_join {xs : List Str} (hf : ∀ x ∈ xs, 44 ∉ x.cps.toList) : Seps (Str.join ", " xs) := fun k h => by
  have q := JL_sep (xs.map fun x => x.cps.toList) (fun a m => by obtain ⟨x, hx, rfl⟩ := List.mem_map.mp m; exact hf x hx) k (join_JL xs ▸ h)
  have l := congrArg List.length q
  rw [← join_JL, List.length_take, List.length_drop, len_cps] at l
  have l : min 2 ((Str.join ", " xs).length - k) = 2 := l
  refine ⟨by rw [sep_len]; (first | (simp +arith only; done) | lia | omega), ?_⟩
  rw [StrLaws.subAt_eq, sep_len, join_JL, q, sep_cps]
  rfl
theorem split_join {xs : List Str} (hne : xs ≠ []) (hf : ∀ x ∈ xs, 44 ∉ x.cps.toList) : Txt.split (Str.join ", " xs) ", " = xs := by
  have H := seps_join hf
  have hJ := StrLaws.join_split (Str.join ", " xs) ", "
  obtain ⟨f, hG, hn⟩ := StrLaws.occ_tight (Str.join ", " xs) ", " (by rw [sep_len]; decide)
  have hX := join_JL xs
  generalize Str.join ", " xs = x at *
  have hp : Txt.split x ", " ≠ [] ∧ ∀ p ∈ Txt.split x ", ", 44 ∉ p.cps.toList := by
    have one : (occurrences x ", " 0 x.length (x.length + 1) = []) → 44 ∉ x.cps.toList := fun e m => by
      obtain ⟨j, hj⟩ := List.getElem?_of_mem m
      rw [e] at hG
      exact hn j (by rw [show f = 0 from hG]; exact Nat.zero_le j) (H j hj)
    unfold Txt.split
    split
    · rename_i hc
      refine ⟨List.cons_ne_nil _ _, fun p hp => ?_⟩
      rw [List.mem_singleton.mp hp]
      intro m
      obtain ⟨j, hj⟩ := List.getElem?_of_mem m
      have a := H j hj
      rw [Bool.or_eq_true, decide_eq_true_eq, decide_eq_true_eq] at hc
      rcases hc with h | h
      · have := a.1; (first | (simp +arith only; done) | lia | omega)
      · have k1 : Builtin.Str.strKind (", " : Str) = 1 := by decide +kernel
        rw [k1] at h
        unfold Builtin.Str.strKind at h
        split at h
        · (first | (simp +arith only; done) | lia | omega)
        · split at h <;> (first | (simp +arith only; done) | lia | omega)
    · split
      · rename_i he
        refine ⟨List.cons_ne_nil _ _, fun p hp => ?_⟩
        rw [List.mem_singleton.mp hp]
        exact one (List.isEmpty_iff.mp he)
      · rw [StrLaws.partsBetween_eq]
        obtain ⟨p, r, e⟩ := StrLaws.partsFrom_ne x (", " : Str).length 0 (occurrences x ", " 0 x.length (x.length + 1))
        exact ⟨e ▸ List.cons_ne_nil _ _, cuts_free H _ 0 f hG hn⟩
  have e : JL ((Txt.split x ", ").map fun x => x.cps.toList) = JL (xs.map fun x => x.cps.toList) := by rw [← join_JL, hJ, hX]
  have q := JL_inj _ _ (fun h => hp.1 (List.map_eq_nil_iff.mp h)) (fun h => hne (List.map_eq_nil_iff.mp h)) (fun a m => by obtain ⟨y, hy, rfl⟩ := List.mem_map.mp m; exact hp.2 y hy) (fun a m => by obtain ⟨y, hy, rfl⟩ := List.mem_map.mp m; exact hf y hy) e
  exact (List.map_inj_right (f := fun x : Str => x.cps.toList) fun a b h => by obtain ⟨⟨a⟩⟩ := a; obtain ⟨⟨b⟩⟩ := b; exact congrArg (fun l => Str.mk (Array.mk l)) h).mp q
end
end
noncomputable section
open PySem PySem.W PyProof.Rows PyProof.Rows.LSm PySem.Spec PyProof.V PySem.Calls
section
noncomputable def zB (b : Nat) (r : List Nat) : Int := (r.map fun k : Nat => 1 * 2 ^ ((b : Int) + k).toNat).sum
noncomputable def rowM (m : Nat) : List Nat := (List.range 6).filter fun k => m.testBit k
noncomputable def readB (z : Int) : Bool := match byteF z with
  | [] => false
  | b :: bs => vF bs b (Builtin.bitAnd b 63) == some (z, [])
noncomputable def wB1 (z : Int) (r : List Nat) : Bool := decide (0 ≤ z ∧ z < 2 ^ 34) && (((z == 0) == r.isEmpty) && (readB z && (octF z).all fun i => decide (0 ≤ i ∧ i < 256)))
set_option maxHeartbeats 2000000 in
theorem nums_all : ∀ b < 28, ∀ m < 64, wB1 (zB b (rowM m)) (rowM m) = true := by decide +kernel
theorem vF_app {rest : List Nat} : ∀ (bs : List Nat) (b : Nat) (z v : Int), vF bs b z = some (v, []) → vF (bs ++ rest) b z = some (v, rest) := fun bs => by
  induction bs with
  | nil =>
    intro b z v h
    have h0 := h
    unfold vF at h
    cases e : Builtin.bitAnd b 64 != 0 with
    | true => rw [e] at h; cases h
    | false =>
      rw [e] at h
      cases h
      cases rest with
      | nil => exact h0
      | cons a r => show vF (a :: r) b z = _; unfold vF; rw [e]; rfl
  | cons a bs ih =>
    intro b z v h
    show vF (a :: (bs ++ rest)) b z = _
    unfold vF at h ⊢
    cases e : Builtin.bitAnd b 64 != 0 with
    | false => rw [e] at h; cases h
    | true =>
      rw [e] at h
      rw [cond_true] at h ⊢
      cases e2 : decide (z.natAbs < 2 ^ 64) with
      | false => rw [e2] at h; cases h
      | true => rw [e2] at h; exact ih _ _ _ h
theorem reads_of {z : Int} (h : readB z = true) : Reads6 z := fun rest => by
  unfold readB at h
  generalize hl : byteF z = l at *
  cases l with
  | nil => cases h
  | cons b bs => exact ⟨b, bs ++ rest, rfl, vF_app bs b _ _ (eq_of_beq h)⟩
noncomputable def wq (q : Nat) : Str := bif Nat.blt q 32 then nmF flagTab q else baseText "0x" 16 (2 ^ 32)
noncomputable def WL (b : Nat) (r : List Nat) : List Str := match r with
  | [] => [baseText "0x" 16 0]
  | _ :: _ => r.map fun k => wq (b + k)
theorem pf_all : ((List.range 28).map fun b => (List.range 64).map fun m => pfGo flagTab (List.range 32) (zB b (rowM m)) []) = (List.range 28).map fun b => (List.range 64).map fun m => WL b (rowM m) := by kernel_rfl
theorem pf_at {b m : Nat} (hb : b < 28) (hm : m < 64) : pfGo flagTab (List.range 32) (zB b (rowM m)) [] = WL b (rowM m) :=
  List.map_inj_left.mp (List.map_inj_left.mp pf_all b (List.mem_range.mpr hb)) m (List.mem_range.mpr hm)
noncomputable def nmB (x : Str) : Bool := (!(x.cps.toList.contains 44)) && (decide (x.length ≤ 30) && PyData.strOk x)
theorem names_all : ∀ q < 33, (wq q == nameF (q : Nat) && (nmB (nameF (q : Nat)) && !(nameF (q : Nat) == "0x0"))) = true := by decide +kernel
theorem names_inj : ∀ p < 33, ∀ q < 33, (nameF (p : Nat) == nameF (q : Nat)) = Nat.beq p q := by decide +kernel
theorem zero_ok : baseText "0x" 16 0 = "0x0" ∧ nmB "0x0" = true := by decide +kernel
end
end
noncomputable section
open PySem PySem.W PyProof.Rows PyProof.Rows.LSm PySem.Spec PyProof.V PySem.Calls
section
variable {ns : List Int}
theorem nmB_of {x : Str} (h : nmB x = true) : 44 ∉ x.cps.toList ∧ x.length ≤ 30 ∧ PyData.strOk x = true := by
  unfold nmB at h
  simp only [Bool.and_eq_true, decide_eq_true_eq, Bool.not_eq_true'] at h
  obtain ⟨h1, h2, h3⟩ := h
  exact ⟨fun m => by rw [List.contains_iff_mem.mpr m] at h1; exact Bool.noConfusion h1, h2, h3⟩
theorem rowM_lt {m k : Nat} (h : k ∈ rowM m) : k < 6 := List.mem_range.mp (List.mem_filter.mp h).1
theorem rowM_len (m : Nat) : (rowM m).length ≤ 6 := Nat.le_trans (List.length_filter_le ..) (by decide)
theorem name_at (b : Nat) {q : Nat} (h : b + q < 33) : wq (b + q) = nameF ((b : Int) + q) ∧ nmB (nameF ((b : Int) + q)) = true ∧ (nameF ((b : Int) + q) == "0x0") = false := by
  have h := names_all (b + q) h
  simp only [Bool.and_eq_true, beq_iff_eq, Bool.not_eq_true'] at h
  rw [Int.natCast_add] at h
  exact h
theorem WL_all {b m : Nat} (hb : b < 28) : (WL b (rowM m) ≠ [] ∧ (WL b (rowM m)).length ≤ 6) ∧ ∀ x ∈ WL b (rowM m), nmB x = true := by
  have hl := rowM_len m
  have ht := fun k (h : k ∈ rowM m) => rowM_lt h
  generalize rowM m = r at *
  cases r with
  | nil => exact ⟨⟨List.cons_ne_nil _ _, by show 1 ≤ 6; decide⟩, fun x hx => by rw [List.mem_singleton.mp hx, zero_ok.1]; exact zero_ok.2⟩
  | cons a r =>
    refine ⟨⟨List.cons_ne_nil _ _, by unfold WL; rw [List.length_map]; exact hl⟩, fun x hx => ?_⟩
    obtain ⟨k, hk, rfl⟩ := List.mem_map.mp hx
    have q := name_at b (q := k) (by have := ht k hk; (first | (simp +arith only; done) | lia | omega))
    rw [q.1]
    exact q.2.1
theorem row_mask {w : Nat → Bool} {r : List Nat} (h : r ∈ aftW w) : ∃ m < 64, r = rowM m := by
  obtain ⟨i, _, rfl⟩ := List.mem_map.mp h
  have q := bitsT_ok (beats w i) 6
  exact ⟨bitsT (beats w i) 6, q.1, List.filter_congr fun k hk => (q.2 k (List.mem_range.mp hk)).symm⟩
theorem join_ok : ∀ {xs : List Str}, (∀ x ∈ xs, PyData.strOk x = true) → PyData.strOk (Str.join ", " xs) = true := fun {xs} => by
  have app : ∀ {a b : Str}, PyData.strOk a = true → PyData.strOk b = true → PyData.strOk (a ++ b) = true := fun {a b} h1 h2 => by
    unfold PyData.strOk at *
    show (a.cps ++ b.cps).all _ = true
    rw [Array.all_append, h1, h2]; rfl
  induction xs with
  | nil => intro _; kernel_rfl
  | cons a r ih =>
    intro h
    have ha := h a (List.mem_cons_self ..)
    cases r with
    | nil => exact ha
    | cons b r => exact app (app ha (by decide +kernel)) (ih fun x m => h x (List.mem_cons_of_mem _ m))
theorem names_get {b k : Nat} (h : baseF ns = b) (hk : k < 6) : (namesF ns)[k]! = nameF ((b : Int) + k) := by
  have h' : k < (namesF ns).length := by unfold namesF; rw [List.length_map, List.length_range]; exact hk
  rw [getElem!_pos _ k h']
  refine (List.getElem_map ..).trans ?_
  rw [List.getElem_range, h]
theorem word_ok : WordOK ns := by
  have hb := base_bd (ns := ns)
  obtain ⟨b, eb⟩ := Int.eq_ofNat_of_zero_le hb.1
  have hb : b < 28 := by (first | (simp +arith only; done) | lia | omega)
  have M : ∀ r ∈ aftF ns, ∃ m < 64, r = rowM m := fun r h => row_mask (aftF_eq ns ▸ h)
  have N : ∀ r, flagN ns r = zB b r := fun r => by unfold flagN; rw [eb]; rfl
  have B : ∀ r ∈ aftF ns, wB1 (flagN ns r) r = true := fun r h => by
    obtain ⟨m, hm, rfl⟩ := M r h
    rw [N]
    exact nums_all b hb m hm
  have B' : ∀ r ∈ aftF ns, (0 ≤ flagN ns r ∧ flagN ns r < 2 ^ 34) ∧ ((flagN ns r == 0) = r.isEmpty) ∧ readB (flagN ns r) = true := fun r h => by
    have h := B r h
    unfold wB1 at h
    simp only [Bool.and_eq_true, decide_eq_true_eq, beq_iff_eq] at h
    exact ⟨h.1, h.2.1, h.2.2.1⟩
  have P : ∀ r ∈ aftF ns, ∃ m, r = rowM m ∧ pfGo flagTab (List.range 32) (flagN ns r) [] = WL b (rowM m) ∧ wordF (flagN ns r) = Str.join ", " (WL b (rowM m)) := fun r h => by
    obtain ⟨m, hm, rfl⟩ := M r h
    refine ⟨m, rfl, by rw [N]; exact pf_at hb hm, ?_⟩
    unfold wordF
    rw [N, pf_at hb hm]
    exact StrLaws.glued_eq_join ..
  have S : ∀ xs : List Str, xs.length ≤ 6 → (∀ x ∈ xs, nmB x = true) → (xs.map (·.length)).sum + xs.length * (", " : Str).length ≤ 192 := fun xs h1 h2 => by
    have q := StrLaws.sumLen_le (B := 30) xs fun x m => (nmB_of (h2 x m)).2.1
    rw [sep_len]
    (first | (simp +arith only; done) | lia | omega)
  have L : ∀ r ∈ aftF ns, (wordF (flagN ns r)).length ≤ 192 := fun r h => by
    obtain ⟨m, rfl, e1, e2⟩ := P r h
    have w := WL_all (m := m) hb
    rw [e2]
    exact Nat.le_trans (StrLaws.join_length_le ..) (S _ w.1.2 w.2)
  have K : ∀ r ∈ aftF ns, Txt.split (wordF (flagN ns r)) ", " = pfGo flagTab (List.range 32) (flagN ns r) [] := fun r h => by
    obtain ⟨m, rfl, e1, e2⟩ := P r h
    have w := WL_all (m := m) hb
    rw [e1, e2]
    exact split_join w.1.1 fun x hx => (nmB_of (w.2 x hx)).1
  have Q : ∀ k < 6, nmB (namesF ns)[k]! = true := fun k hk => by
    rw [names_get eb hk]
    exact (name_at b (q := k) (by (first | (simp +arith only; done) | lia | omega))).2.1
  have Z : sizeLine = 16777216 := sizeLine_eq
  refine { bd := fun r h => (B' r h).1, rt := fun z h => ?rt, eof := fun r h => (B' r h).2.1, wj := fun r h => ?wj, wl := fun r h => ?wl, nj := fun r h => ?nj, sk := fun r h => ?sk, nk := fun k hk => (nmB_of (Q k hk)).2.2, go := fun r h => ?go, say := fun r h => ?say, law := ?law }
  case law => rw [aftF_eq]; exact ways_due
  case rt =>
    obtain ⟨r, hr, rfl⟩ := List.mem_map.mp h
    exact reads_of (B' r hr).2.2
  case wj =>
    obtain ⟨m, rfl, e1, e2⟩ := P r h
    have w := WL_all (m := m) hb
    rw [e1]
    exact Nat.le_trans (S _ w.1.2 w.2) (by decide)
  case wl =>
    have l := L r h
    refine ⟨by (first | (simp +arith only; done) | lia | omega), ?_⟩
    rw [length_partsBetween]
    have := StrLaws.occ_length_le_len (wordF (flagN ns r)) ", " 0 (wordF (flagN ns r)).length ((wordF (flagN ns r)).length + 1)
    (first | (simp +arith only; done) | lia | omega)
  case nj =>
    obtain ⟨m, rfl, e1, e2⟩ := P r h
    refine Nat.le_trans (S _ (by rw [List.length_map]; exact rowM_len m) fun x hx => ?_) (by decide)
    obtain ⟨k, hk, rfl⟩ := List.mem_map.mp hx
    exact Q k (rowM_lt hk)
  case sk =>
    rw [K r h]
    obtain ⟨m, rfl, e1, e2⟩ := P r h
    have w := WL_all (m := m) hb
    rw [e1, e2]
    exact ⟨join_ok fun x hx => (nmB_of (w.2 x hx)).2.2, fun x hx => (nmB_of (w.2 x hx)).2.2⟩
  case say =>
    obtain ⟨m, rfl, e1, e2⟩ := P r h
    rw [e2]
    unfold sayF
    have hk := fun k (q : k ∈ rowM m) => rowM_lt q
    generalize rowM m = r at hk
    cases r with
    | nil => exact zero_ok.1
    | cons a r =>
      refine (StrLaws.glued_eq_join ..).symm.trans (congrArg (Txt.join ", ") (List.map_congr_left fun k q => ?_))
      rw [names_get eb (hk k q)]
      exact (name_at b (q := k) (by have := hk k q; (first | (simp +arith only; done) | lia | omega))).1
  case go =>
    unfold goW
    rw [K r h]
    obtain ⟨m, rfl, e1, e2⟩ := P r h
    rw [e1]
    refine (List.filter_congr fun k hk => ?_ : _ = (List.range 6).filter fun k => m.testBit k)
    have hk := List.mem_range.mp hk
    rw [names_get eb hk, List.any_map]
    have i0 : (rowM m).contains k = m.testBit k := by
      unfold rowM
      cases e : m.testBit k with
      | true => exact List.contains_iff_mem.mpr (List.mem_filter.mpr ⟨List.mem_range.mpr hk, e⟩)
      | false => exact Bool.eq_false_iff.mpr fun c => by rw [(List.mem_filter.mp (List.contains_iff_mem.mp c)).2] at e; exact Bool.noConfusion e
    rw [← i0]
    have hr := fun k (q : k ∈ rowM m) => rowM_lt q
    generalize rowM m = r at hr
    have go : ∀ l : List Nat, (∀ k ∈ l, k < 6) → (l.map fun j => wq (b + j)).any ((fun y => PyData.eqv y (.str (nameF ((b : Int) + k)))) ∘ PyData.str) = l.contains k := fun l => by
      induction l with
      | nil => intro _; rfl
      | cons a l ih =>
        intro hl
        have ha := hl a (List.mem_cons_self ..)
        rw [List.map_cons, List.any_cons, ih fun x m => hl x (List.mem_cons_of_mem _ m), List.contains_cons]
        refine congrArg (· || _) ?_
        show (wq (b + a) == nameF ((b : Int) + k)) = (k == a)
        have i := names_inj (b + a) (by (first | (simp +arith only; done) | lia | omega)) (b + k) (by (first | (simp +arith only; done) | lia | omega))
        rw [Int.natCast_add, Int.natCast_add] at i
        rw [(name_at b (q := a) (by (first | (simp +arith only; done) | lia | omega))).1, i]
        by_cases q : k = a
        · subst q; rw [beq_self_eq_true]; exact Nat.beq_refl _
        · rw [beq_false_of_ne q]; exact Bool.eq_false_iff.mpr fun c => q (by have := Nat.eq_of_beq_eq_true c; (first | (simp +arith only; done) | lia | omega))
    cases r with
    | nil =>
      show ((baseText "0x" 16 0 == nameF ((b : Int) + k)) || false) = false
      rw [zero_ok.1, Bool.or_false]
      have i := (name_at b (q := k) (by (first | (simp +arith only; done) | lia | omega))).2.2
      exact Bool.eq_false_iff.mpr fun c => by rw [← eq_of_beq c] at i; exact absurd i (by decide +kernel)
    | cons a r => exact go (a :: r) hr
theorem octs_ok : (∀ z ∈ flagsF ns, 0 ≤ z ∧ z < 2 ^ 40) ∧ (∀ i ∈ octsF ns, 0 ≤ i ∧ i < 256) ∧ (octsF ns).length ≤ 1000000 ∧ (flagsF ns).length ≤ 1000000 := by
  have hb := base_bd (ns := ns)
  obtain ⟨b, eb⟩ := Int.eq_ofNat_of_zero_le hb.1
  have hb : b < 28 := by omega
  have B : ∀ z ∈ flagsF ns, ∃ r, wB1 z r = true := fun z hz => by
    obtain ⟨r, h, rfl⟩ := List.mem_map.mp hz
    obtain ⟨m, hm, rfl⟩ := row_mask (aftF_eq ns ▸ h)
    exact ⟨rowM m, by unfold flagN; rw [eb]; exact nums_all b hb m hm⟩
  have fl : (flagsF ns).length = 6 := by unfold flagsF; rw [List.length_map, aftF_eq, (aftW_rows _).len]
  refine ⟨fun z hz => ?_, fun i hi => ?_, ?_, by rw [fl]; decide⟩
  · obtain ⟨r, h⟩ := B z hz
    unfold wB1 at h
    simp only [Bool.and_eq_true, decide_eq_true_eq] at h
    omega
  · obtain ⟨z, hz, hi⟩ := List.mem_flatMap.mp hi
    obtain ⟨r, h⟩ := B z hz
    unfold wB1 at h
    simp only [Bool.and_eq_true, decide_eq_true_eq, List.all_eq_true] at h
    exact h.2.2.2 i hi
  · refine Nat.le_trans (flat_len (m := 11) fun z _ => ?_) (by rw [fl]; decide)
    have q : (octGo 10 z [z.fmod 64]).length ≤ 11 := octGo_len
    unfold octF
    generalize octGo 10 z [z.fmod 64] = l at q
    cases l with
    | nil => exact Nat.zero_le _
    | cons a l => exact q
end
end
noncomputable section
open PySem PySem.W PyProof.Rows PyProof.Rows.LSm PySem.Spec PyProof.V PySem.Calls
section
variable {c : Cx} {P : Sp} {n m : Nat} {T T' T₁ : TS} {s : Shared} {X X₀ W : Addr → Prop} {K₀ : Addr → Obj → Prop} {RP : Shared → (Addr → Prop) → Prop} {sc : Scp} {ow : List Str} {A : Around} {env : Env} {Γ Γ' Γ₁ : Gam} {v : Value} {E : Value → Shared → Prop} {ss rest : List Stmt} {Q : Flow → Shared → Prop} {vs : List Value} {fl : Fl}
theorem execs_app {M : Model} : ∀ (l : List Stmt) {s : Shared}, wpAny M A (execs l env) (fun f s' => match f with | .next => wpAny M A (execs rest env) Q E s' | f => Q f s') E s → wpAny M A (execs (l ++ rest) env) Q E s := fun l s h Γ p hΓ => by
  have key : ∀ (l : List Stmt) (s : Shared) (p : Pos), Sem.wp M Γ (execs l env) (fun f _ s' => match f with | .next => wpAny M A (execs rest env) Q E s' | f => Q f s') (fun e _ s' => E e s') p s → Sem.wp M Γ (execs (l ++ rest) env) (fun f _ s' => Q f s') (fun e _ s' => E e s') p s := fun l => by
    induction l with
    | nil => intro s p h; exact (show wpAny M A (execs rest env) Q E s from h) Γ p hΓ
    | cons st l ih =>
      intro s p h
      rw [execs_cons, Sem.wp_bind'] at h
      show Sem.wp M Γ (execs (st :: (l ++ rest)) env) _ _ p s
      rw [execs_cons, Sem.wp_bind']
      refine Sem.wp_mono M Γ _ (fun f p' s' h' => ?_) (fun _ _ _ h' => h') _ _ h
      cases f with
      | next => exact ih _ _ h'
      | _ => exact h'
  exact key l s p (h Γ p hΓ)
theorem Ex.app (h : Ex c n sc ow Γ T ss .next Γ₁ T₁) (J : Inv c P n sc ow A env s X₀ W K₀ RP none Γ T) (k : ∀ s' W', Inv c P n sc ow A env s' X₀ W' K₀ RP none Γ₁ T₁ → wpAny c.M A (execs rest env) Q E s') : wpAny c.M A (execs (ss ++ rest) env) Q E s :=
  execs_app ss (wpAny_mono (h _ _ _ _ _ _ _ _ _ J) (fun f s' z => by
    obtain ⟨⟨W', J'⟩, e⟩ := z
    cases (show f = .next from e)
    exact k s' W' J') fun _ _ e => e)
noncomputable def WInv (Pm : Params) (h : Heap) (v : Value) : WData → Prop
  | .int i => ∃ t, v = .int i t
  | .list xs => ∃ a us, v = .ref a ∧ h.get? a = some { cls := .type "list", data := .seq us.toArray } ∧ WellAll Pm h us xs
  | _ => True
theorem well_inv {Pm : Params} {h : Heap} {v : Value} {d : WData} (w : Well Pm h v d) : WInv Pm h v d :=
  Well.casesOn (motive_1 := fun v d _ => WInv Pm h v d) w trivial (fun _ => trivial) (fun _ t => ⟨t, rfl⟩) (fun _ _ => trivial) (fun _ _ => trivial) (fun _ _ => trivial) (fun _ => trivial) (fun {a vs _} g w => ⟨a, vs, rfl, g, w⟩) (fun _ _ => trivial) (fun _ _ => trivial) (fun _ _ _ _ => trivial) (fun _ _ _ _ => trivial) (fun _ _ _ _ => trivial)
theorem ints_well {Pm : Params} {h : Heap} : ∀ {xs : List Int} {us : List Value}, WellAll Pm h us (xs.map .int) → ReadsAll h us (xs.map .int) [] := fun {xs} => by
  induction xs with
  | nil => intro us q; cases q; exact .nil
  | cons i xs ih =>
    intro us q
    obtain ⟨v, us, rfl, q1, q2⟩ := wellAll_cons_inv q
    obtain ⟨t, rfl⟩ := well_inv q1
    exact .cons (as := []) (.int i t) (ih q2)
theorem args_of {R : WRecords} {Pm : Params} {h : Heap} {args : List WData} (hs : WShape.hasAll R args [.list .int] = true) (hw : WellAll Pm h vs args) : ∃ (a : Addr) (xs : List Int), vs = [.ref a] ∧ args = [.list (xs.map .int)] ∧ RdP h (fun _ => False) (.ref a) (.list (xs.map .int)) := by
  obtain ⟨d, r, rfl, h1, h2⟩ := hasAllW_cons hs
  obtain ⟨ws, rfl, h3⟩ := hasW_list h1
  obtain ⟨xs, rfl⟩ := items_int h3
  obtain ⟨v, vs, rfl, w1, w2⟩ := wellAll_cons_inv hw
  rw [hasAllW_nil h2] at w2 ⊢
  cases w2
  obtain ⟨a, us, rfl, g, wa⟩ := well_inv w1
  exact ⟨a, xs, rfl, rfl, [a], .list g rfl rfl (ints_well wa), fun b m => ⟨id, _, List.mem_singleton.mp m ▸ g, rfl⟩⟩
theorem law_code (G : Gl c) (W : GlW c) {R : Result → Shared → Prop} {fa : Addr} {o : Obj} {fd : FuncData} {xs : List Int} (q : FnOK fd S_law O_law B_law.1 ["script"]) (ho : s.heap.get? fa = some o) (hd : o.data = .func fd) (hcd : s.heap.CodeRec fd.code fd.qualname) (p : PreC c P 6 A s X ⟨none, none⟩) (rd : Rd c P s.heap X v (.p (.list (xs.map .int)))) (hx : xs.length ≤ 63)
    (h : ∀ h' tk, Keep s.heap h' → R (.ok (.ret (.bool true))) { s with heap := h', toks := tk }) : codeAny c.M A (.call (.ref fa) ⟨[v], []⟩) R s := by
  obtain ⟨ns, hn⟩ : ∃ ns, xs.zipIdx.foldl (numS 6) [146, 6, 81, 208, 43, 1845] = ns := ⟨_, rfl⟩
  have hl : ns.length = 6 := by
    rw [← hn]
    have key : ∀ (l : List (Int × Nat)) (ms : List Int), ms.length = 6 → (l.foldl (numS 6) ms).length = 6 := fun l => by
      induction l with
      | nil => intro ms e; exact e
      | cons a l ih => intro ms e; exact ih _ (by unfold numS; rw [List.length_set]; exact e)
    exact key _ _ rfl
  have L := line_ok hl
  have C := chart_ok hl (aftF_eq ns ▸ aftW_rows _)
  have O := octs_ok (ns := ns)
  refine fn_run q ho hd hcd p (ds := [.p (.list (xs.map .int))]) (Γ := [some (.v (.p (.list (xs.map .int)))), none, none, none, none, none, none, none, none, none, none, none, none, none, none, none, none, none, none]) (.cons rd .nil) rfl (le_fn (k := 18) (ds := [.p (.list (xs.map .int))])) fun A' env' s₁ W' E J => ?_
  obtain ⟨st, rest, e4, e5⟩ : ∃ st rest, B_law.1.drop 14 = st :: rest ∧ rest = B_law.1.drop 15 := ⟨_, _, rfl, rfl⟩
  have e : B_law.1 = B_law.1.take 6 ++ ((B_law.1.drop 6).take 4 ++ ((B_law.1.drop 10).take 4 ++ st :: rest)) := by rw [← e4]; exact (show _ = _ by kernel_rfl)
  rw [e]
  refine (law_a (n := 0) G W hx hn hl).app J fun s₂ W₂ J => (law_b (n := 0) G W L).app J fun s₃ W₃ J => (law_c (n := 0) G W L C).app J fun s₄ W₄ J => ?_
  refine wpAny_execs_cons (wpAny_mono (law_t (n := 0) G O.1 O.2.1 O.2.2.1 O.2.2.2 (Q := fun f s' => f = .next ∧ ∃ τ W', Inv c { P with τ := τ } 5 S_law O_law A' env' s' (fun b => X b ∨ b = τ) W' _ _ none (gamD xs ns) ⟨some (bytesF (flagsF ns)), none⟩) J (fun s' τ W' J => ⟨rfl, τ, W', J⟩) st rest e4) (fun f s' z => ?_) fun _ _ e => e)
  obtain ⟨rfl, τ, W₅, J⟩ := z
  rw [e5]
  refine wpAny_mono (law_d (n := 0) G W C word_ok _ _ _ _ _ _ _ _ _ J) (fun f s' z => ?_) fun _ _ e => e
  obtain ⟨⟨W₆, J⟩, v', rfl, r⟩ := z
  have ev : v' = .bool true := RdP.inv r
  obtain ⟨h', tk, rfl⟩ := J.rp
  rw [ev]
  exact h h' tk fun b o e => (J.kp b o ⟨e, fun _ => rfl, fun _ => rfl⟩).1
end
end
noncomputable section
open PySem PySem.W PyProof.Rows PyProof.Rows.LSm PySem.Spec PyProof.V PySem.Calls
section
noncomputable abbrev FV := Arguments × FuncBody × Value × List (Str × NameKind) × (Bool × Bool × ScopeKind) × Addr × Addr × List (Str × Addr)
noncomputable def fdD : Data → Option FuncData
  | .func fd => some fd
  | _ => none
noncomputable def flD : Data → Option (Array Value)
  | .fields vs => some vs
  | _ => none
noncomputable def refD : Value → Option Addr
  | .ref a => some a
  | _ => none
noncomputable def strD : Value → Option Str
  | .str x _ => some x
  | _ => none
noncomputable def intD : Value → Option Int
  | .int i _ => some i
  | _ => none
noncomputable def tyD : Value → Option String
  | .type t => some t
  | _ => none
theorem none_ne {α : Type} {a : α} {p : Prop} (h : none = some a) : p := nomatch h
theorem fdD_of {d : Data} {fd : FuncData} (h : fdD d = some fd) : d = .func fd := by cases d <;> first | exact none_ne h | exact congrArg _ (Option.some.inj h)
theorem flD_of {d : Data} {vs : Array Value} (h : flD d = some vs) : d = .fields vs := by cases d <;> first | exact none_ne h | exact congrArg _ (Option.some.inj h)
theorem refD_of {v : Value} {a : Addr} (h : refD v = some a) : v = .ref a := by cases v <;> first | exact none_ne h | exact congrArg _ (Option.some.inj h)
theorem strD_of {v : Value} {x : Str} (h : strD v = some x) : ∃ t, v = .str x t := by cases v <;> first | exact none_ne h | exact ⟨_, congrArg (Value.str · _) (Option.some.inj h)⟩
theorem intD_of {v : Value} {i : Int} (h : intD v = some i) : ∃ t, v = .int i t := by cases v <;> first | exact none_ne h | exact ⟨_, congrArg (Value.int · _) (Option.some.inj h)⟩
theorem tyD_of {v : Value} {t : String} (h : tyD v = some t) : v = .type t := by cases v <;> first | exact none_ne h | exact congrArg _ (Option.some.inj h)
noncomputable def codeQ (K : Frag) (v : Value) : Option Str := (refD v).bind fun k => (K.lookup k).bind fun ok => (flD ok.data).bind fun vs => (vs[1]? : Option Value).bind strD
theorem codeQ_of {K : Frag} {h : Heap} {v : Value} {q : Str} (X : K.In h) (e : codeQ K v = some q) : h.CodeRec v q := by
  obtain ⟨k, h3, e⟩ := Option.bind_eq_some_iff.mp e
  obtain ⟨ok, h4, e⟩ := Option.bind_eq_some_iff.mp e
  obtain ⟨vs, h5, e⟩ := Option.bind_eq_some_iff.mp e
  obtain ⟨u, h6, e⟩ := Option.bind_eq_some_iff.mp e
  obtain ⟨t, ht⟩ := strD_of e
  exact ⟨k, ok, vs, t, refD_of h3, X _ _ h4, flD_of h5, ht ▸ h6⟩
noncomputable def fvW (fd : FuncData) : FV := (fd.params, fd.body, fd.defaults, fd.scope.names, (fd.scope.isCoroutine, fd.scope.isGenerator, fd.scope.kind), fd.globals, fd.builtins, fd.closure)
noncomputable def fnv (K : Frag) (a : Addr) : Option FV := (K.lookup a).bind fun o => (fdD o.data).bind fun fd => if codeQ K fd.code = some fd.qualname then some (fvW fd) else none
theorem fnv_of {K : Frag} {h : Heap} {a : Addr} {v : FV} (X : K.In h) (e : fnv K a = some v) : ∃ o fd, h.get? a = some o ∧ o.data = .func fd ∧ h.CodeRec fd.code fd.qualname ∧ fvW fd = v := by
  obtain ⟨o, h1, e⟩ := Option.bind_eq_some_iff.mp e
  obtain ⟨fd, h2, e⟩ := Option.bind_eq_some_iff.mp e
  by_cases hq : codeQ K fd.code = some fd.qualname
  · rw [if_pos hq] at e
    exact ⟨o, fd, X _ _ h1, fdD_of h2, codeQ_of X hq, Option.some.inj e⟩
  · rw [if_neg hq] at e; cases e
noncomputable def FnOf (h : Heap) (f : Addr) (b : List Stmt) (sc : Scp) (pn : List Str) : Prop := ∃ o fd, h.get? f = some o ∧ o.data = .func fd ∧ h.CodeRec fd.code fd.qualname ∧ fd.body = .stmts b ∧ fd.scope.names = sc ∧ (fd.scope.isCoroutine = false ∧ fd.scope.isGenerator = false ∧ fd.scope.kind = .function) ∧ fd.globals = mainGlobals ∧ fd.builtins = builtinsNs ∧ fd.closure = [] ∧ ∀ vs : List Value, vs.length = pn.length → bindArgs fd ⟨vs, []⟩ = pure (pn.zip vs)
noncomputable def Binds (P : Arguments) (pn : List Str) : Prop := ∀ fd : FuncData, fd.params = P → fd.defaults = .none → ∀ vs : List Value, vs.length = pn.length → bindArgs fd ⟨vs, []⟩ = pure (pn.zip vs)
theorem fnOf_of {K : Frag} {h : Heap} {f : Addr} {P : Arguments} {b : List Stmt} {sc : Scp} {pn : List Str} (X : K.In h) (e : fnv K f = some (P, .stmts b, .none, sc, (false, false, .function), mainGlobals, builtinsNs, [])) (hb : Binds P pn) : FnOf h f b sc pn := by
  obtain ⟨o, fd, h1, h2, h3, h4⟩ := fnv_of X e
  have t := congrArg (·.2.2.2.2.1) h4
  exact ⟨o, fd, h1, h2, h3, congrArg (·.2.1) h4, congrArg (·.2.2.2.1) h4, ⟨congrArg (·.1) t, congrArg (·.2.1) t, congrArg (·.2.2) t⟩, congrArg (·.2.2.2.2.2.1) h4, congrArg (·.2.2.2.2.2.2.1) h4, congrArg (·.2.2.2.2.2.2.2) h4, hb fd (congrArg (·.1) h4) (congrArg (·.2.2.1) h4)⟩
noncomputable def gfn (K : Frag) (x : Str) : Option FV := (nsIn K mainGlobals x).bind fun v => v.bind fun v => (refD v).bind (fnv K)
noncomputable def mfn (K : Frag) (C : Addr) (x : Str) : Option FV := (findIn K (.ref C) x).bind fun v => v.bind fun v => (refD v).bind fun f => (typeIn K (.ref f)).bind fun t => (tyD t).bind fun t => if t = "function" then fnv K f else none
noncomputable def fcs (K : Frag) (C : Addr) (x : Str) : Option Str := match findCls K (.ref C) (.type "type") x with
  | some (.val v) => strD v
  | _ => none
noncomputable def gint (K : Frag) (x : Str) : Option Int := (nsIn K mainGlobals x).bind fun v => v.bind intD
theorem gfn_of {c : Cx} {x : Str} {P : Arguments} {b : List Stmt} {sc : Scp} {pn : List Str} (ok : c.OK) (e : gfn c.K x = some (P, .stmts b, .none, sc, (false, false, .function), mainGlobals, builtinsNs, [])) (hb : Binds P pn) : FnAt c x b sc pn := by
  obtain ⟨u, ha, e⟩ := Option.bind_eq_some_iff.mp e
  obtain ⟨v, hb1, e⟩ := Option.bind_eq_some_iff.mp e
  obtain ⟨a, hc, e⟩ := Option.bind_eq_some_iff.mp e
  exact (fnOf_of ok.k e hb).elim fun o q => q.elim fun fd q => ⟨a, o, fd, refD_of hc ▸ mg_of ok.k ok.g (hb1 ▸ ha), q⟩
theorem mfn_of {c : Cx} {x : Str} {P : Arguments} {b : List Stmt} {sc : Scp} {pn : List Str} (ok : c.OK) (e : mfn c.K c.C x = some (P, .stmts b, .none, sc, (false, false, .function), mainGlobals, builtinsNs, [])) (hb : Binds P pn) : MethAt c x b sc pn := by
  obtain ⟨u, ha, e⟩ := Option.bind_eq_some_iff.mp e
  obtain ⟨v, hb1, e⟩ := Option.bind_eq_some_iff.mp e
  obtain ⟨f, hc, e⟩ := Option.bind_eq_some_iff.mp e
  obtain ⟨ty, h5, e⟩ := Option.bind_eq_some_iff.mp e
  obtain ⟨t, h6, e⟩ := Option.bind_eq_some_iff.mp e
  by_cases hq : t = "function"
  · rw [if_pos hq] at e
    exact (fnOf_of ok.k e hb).elim fun o q => q.elim fun fd q => ⟨f, o, fd, refD_of hc ▸ hb1 ▸ ha, hq ▸ tyD_of h6 ▸ h5, q⟩
  · rw [if_neg hq] at e; cases e
theorem gint_of {c : Cx} {x : Str} {i : Int} (ok : c.OK) (e : gint c.K x = some i) : ∃ t, c.mg x = some (.int i t) := by
  obtain ⟨u, ha, e⟩ := Option.bind_eq_some_iff.mp e
  obtain ⟨v, hb1, e⟩ := Option.bind_eq_some_iff.mp e
  obtain ⟨t, q⟩ := intD_of e
  exact ⟨t, q ▸ mg_of ok.k ok.g (hb1 ▸ ha)⟩
theorem fcs_of {K : Frag} {C : Addr} {x s : Str} (e : fcs K C x = some s) : ∃ t, findCls K (.ref C) (.type "type") x = some (.val (.str s t)) := by
  unfold fcs at e
  split at e
  · rename_i v h; obtain ⟨t, q⟩ := strD_of e; exact ⟨t, q ▸ h⟩
  · cases e
noncomputable def frag (as : List Addr) (h : Heap) : Frag := as.filterMap fun a => (h.get? a).map (a, ·)
theorem frag_in (as : List Addr) (h : Heap) : (frag as h).In h := fun a o e => by
  unfold frag at e
  induction as with
  | nil => cases e
  | cons b as ih =>
    rw [List.filterMap_cons] at e
    cases q : h.get? b with
    | none => rw [q] at e; exact ih e
    | some ob =>
      rw [q] at e
      have e : List.lookup a ((b, ob) :: as.filterMap fun a => (h.get? a).map (a, ·)) = some o := e
      rw [List.lookup_cons] at e
      cases r : a == b with
      | true => rw [r] at e; cases e; rw [eq_of_beq r]; exact q
      | false => rw [r] at e; exact ih e
theorem frag_keep {as : List Addr} {h h' : Heap} (p : (as.all fun a => (h.get? a).isSome) = true) (k : ∀ b o, h.get? b = some o → h'.get? b = some o) : frag as h' = frag as h ∧ (as.all fun a => (h'.get? a).isSome) = true := by
  induction as with
  | nil => exact ⟨rfl, rfl⟩
  | cons b as ih =>
    have p := Bool.and_eq_true_iff.mp (List.all_cons.symm.trans p)
    obtain ⟨o, ho⟩ := Option.isSome_iff_exists.mp p.1
    have q := ih p.2
    have e : h'.get? b = h.get? b := by rw [ho, k b o ho]
    unfold frag at q ⊢
    rw [List.filterMap_cons, List.filterMap_cons, List.all_cons, e, q.1, q.2, p.1]
    exact ⟨rfl, rfl⟩
end
section
noncomputable def fdArgs (s : Stmt) : Arguments := (DefRec.ofStmt? s).elim ⟨[], [], none, [], [], none, []⟩ (·.params)
noncomputable def fdScope (s : Stmt) : List (Str × NameKind) := (DefRec.ofStmt? s).elim [] (·.scope.names)
noncomputable def fvOf (P : Arguments) (b : List Stmt) (sc : Scp) : Option FV := some (P, .stmts b, .none, sc, (false, false, .function), mainGlobals, builtinsNs, [])
noncomputable def intOf : PyData → Int
  | .int i => i
  | _ => 0
noncomputable def flagI2 : List (Int × PyData) := flagTab.map fun p => (intOf p.1, p.2)
noncomputable def tokI2 : List (Str × PyData) := tokTab.map fun p => (strOf p.1, p.2)
open PyProof.Rows
noncomputable abbrev See := List (Option FV) × List (Option FV) × List (Option (Option Value)) × List (Option (Option Value)) × List Bool × List (Option Str) × List (Option Int) × List Int
noncomputable def nmF1 : List Str := ["pretty_flags", "_parse_varint", "ISTERMINAL", "ISEOF", "_law_signs", "_law_numbers", "_law_octets"]
noncomputable def nmF2 : List Str := ["_law_column", "_law_parted", "_law_chart", "_law_names", "_law_ways", "_law_due", "law"]
noncomputable def nmM : List Str := ["__init__", "longest_run_of_spaces", "indent_level", "not_equal_witness"]
noncomputable def nmA : List Str := ["__getattribute__", "__getattr__", "__setattr__", "raw", "n", "nt", "norm", "is_simple"]
noncomputable def nmB1 : List Str := ["len", "max", "range", "sum", "sorted", "enumerate", "tuple"]
noncomputable def nmB2 : List Str := ["hex", "next", "iter", "bytes", "list", "all"]
noncomputable def nmC : List Str := ["Whitespace", "COMPILER_FLAG_NAMES", "EXACT_TOKEN_TYPES"]
noncomputable def nmS : List Str := ["S", "T"]
noncomputable def nmI : List Str := ["NT_OFFSET", "ENDMARKER"]
noncomputable def see (K : Frag) : See := ((nmF1 ++ nmF2).map (gfn K), nmM.map (mfn K 83), nmA.map (findIn K (.ref 83)), (nmB1 ++ (nmB2 ++ nmC)).map (nsIn K mainGlobals), [plainOver K 83, (clsIn K 83).any (·.hasDict), makesIn K 83, keepIn K (.ref 83), readsIn K 83 (.type "type"), KTD.keyedLook (fun a => List.lookup a K) 88 flagI2, KTD.tabLook KTD.flatLooks (fun a => List.lookup a K) 103 tokI2], nmS.map (fcs K 83), nmI.map (gint K), KTD.hashesOf (fun a => List.lookup a K) 103)
noncomputable def want (w : World) : See := ([fvOf (fdArgs (st 5)) B_flags.1 (fdScope (st 5)), fvOf (fdArgs (st 6)) B_varint.1 (fdScope (st 6)), fvOf (fdArgs (st 59)) B_term.1 (fdScope (st 59)), fvOf (fdArgs (st 60)) B_eof.1 (fdScope (st 60)), fvOf (fdArgs (st 62)) B_signs.1 (fdScope (st 62)), fvOf (fdArgs (st 63)) B_numbers.1 (fdScope (st 63)), fvOf (fdArgs (st 67)) B_octets.1 (fdScope (st 67)), fvOf (fdArgs (st 64)) B_column.1 (fdScope (st 64)), fvOf (fdArgs (st 65)) B_parted.1 (fdScope (st 65)), fvOf (fdArgs (st 66)) B_chart.1 (fdScope (st 66)), fvOf (fdArgs (st 68)) B_names.1 (fdScope (st 68)), fvOf (fdArgs (st 69)) B_ways.1 (fdScope (st 69)), fvOf (fdArgs (st 70)) B_due.1 (fdScope (st 70)), fvOf (fdArgs (st 71)) B_law.1 (fdScope (st 71))], [fvOf (fdArgs (clsAt (st 2) 1)) B_init.1 (fdScope (clsAt (st 2) 1)), fvOf (fdArgs (clsAt (st 2) 2)) B_longest.1 (fdScope (clsAt (st 2) 2)), fvOf (fdArgs (clsAt (st 2) 3)) B_indent.1 (fdScope (clsAt (st 2) 3)), fvOf (fdArgs (clsAt (st 2) 5)) B_witness.1 (fdScope (clsAt (st 2) 5))], [some (some (.builtin "object.__getattribute__")), some none, some (some (.builtin "object.__setattr__")), some none, some none, some none, some none, some none], [some none, some none, some none, some none, some none, some none, some none, some none, some none, some none, some none, some none, some none, some (some (.ref 83)), some (some (.ref 88)), some (some (.ref 103))], [true, true, true, true, true, true, true], [some " ", some "\t"], [some 256, some 0], tokI2.map fun p => PyData.keyHash w.params p.1)
noncomputable def adrs : List Addr := [mainGlobals, cStatics, 37, 38, 44, 45, 51, 52, 65, 66, 82, 83, 88, 103, 94, 95, 101, 102, 111, 112, 118, 119, 125, 126, 132, 133, 139, 140, 144, 145, 149, 150, 156, 157, 161, 162, 166, 167, 171, 172, 176, 177]
end
section
structure Seen (w : World) (h : Heap) : Prop where
  s : see (frag adrs h) = want w
  p : (adrs.all fun a => (h.get? a).isSome) = true
noncomputable def hook : Hook where
  α := See × Bool
  obs := fun s => (see (frag adrs s.heap), adrs.all fun a => (s.heap.get? a).isSome)
  val := fun w => (want w, true)
  says := fun w h => Seen w h
  of := fun _ _ e => ⟨congrArg Prod.fst e, congrArg Prod.snd e⟩
  keeps := fun _ _ _ q k => ⟨(congrArg see (frag_keep q.p k).1).trans q.s, (frag_keep q.p k).2⟩
end
end
noncomputable section
open PySem PySem.W PyProof.Rows PyProof.Rows.LSm PySem.Spec PyProof.V PySem.Calls
section
theorem len0 {vs : List Value} (h : vs.length = 0) : vs = [] := List.length_eq_zero_iff.mp h
theorem len1 {vs : List Value} (h : vs.length = 1) : ∃ a, vs = [a] := List.length_eq_one_iff.mp h
theorem len2 {vs : List Value} (h : vs.length = 2) : ∃ a b, vs = [a, b] := by
  cases vs with
  | nil => cases h
  | cons a r => obtain ⟨b, rfl⟩ := len1 (Nat.succ.inj h); exact ⟨a, b, rfl⟩
theorem len3 {vs : List Value} (h : vs.length = 3) : ∃ a b c, vs = [a, b, c] := by
  cases vs with
  | nil => cases h
  | cons a r => obtain ⟨b, c, rfl⟩ := len2 (Nat.succ.inj h); exact ⟨a, b, c, rfl⟩
theorem binds_mk {P : Arguments} {pn : List Str} (h : ∀ n q b sc g cl kd dc pm an cd ct bn (vs : List Value), vs.length = pn.length → bindArgs ⟨n, q, P, b, sc, g, cl, .none, kd, dc, pm, an, cd, ct, bn⟩ ⟨vs, []⟩ = pure (pn.zip vs)) : Binds P pn := fun fd h1 h2 vs hl => by
  obtain ⟨_, _, Q, _, _, _, _, df⟩ := fd
  cases (show Q = _ from h1)
  cases (show df = _ from h2)
  exact h _ _ _ _ _ _ _ _ _ _ _ _ _ vs hl
theorem binds0 {P : Arguments} (h : ∀ n q b sc g cl kd dc pm an cd ct bn, bindArgs ⟨n, q, P, b, sc, g, cl, .none, kd, dc, pm, an, cd, ct, bn⟩ ⟨[], []⟩ = pure []) : Binds P [] := binds_mk fun n q b sc g cl kd dc pm an cd ct bn vs hl => len0 hl ▸ h n q b sc g cl kd dc pm an cd ct bn
theorem binds1 {P : Arguments} {x : Str} (h : ∀ n q b sc g cl kd dc pm an cd ct bn u, bindArgs ⟨n, q, P, b, sc, g, cl, .none, kd, dc, pm, an, cd, ct, bn⟩ ⟨[u], []⟩ = pure [(x, u)]) : Binds P [x] := binds_mk fun n q b sc g cl kd dc pm an cd ct bn vs hl => by
  obtain ⟨u, rfl⟩ := len1 hl
  exact h n q b sc g cl kd dc pm an cd ct bn u
theorem binds2 {P : Arguments} {x y : Str} (h : ∀ n q b sc g cl kd dc pm an cd ct bn u v, bindArgs ⟨n, q, P, b, sc, g, cl, .none, kd, dc, pm, an, cd, ct, bn⟩ ⟨[u, v], []⟩ = pure [(x, u), (y, v)]) : Binds P [x, y] := binds_mk fun n q b sc g cl kd dc pm an cd ct bn vs hl => by
  obtain ⟨u, v, rfl⟩ := len2 hl
  exact h n q b sc g cl kd dc pm an cd ct bn u v
theorem binds3 {P : Arguments} {x y z : Str} (h : ∀ n q b sc g cl kd dc pm an cd ct bn u v w, bindArgs ⟨n, q, P, b, sc, g, cl, .none, kd, dc, pm, an, cd, ct, bn⟩ ⟨[u, v, w], []⟩ = pure [(x, u), (y, v), (z, w)]) : Binds P [x, y, z] := binds_mk fun n q b sc g cl kd dc pm an cd ct bn vs hl => by
  obtain ⟨u, v, w, rfl⟩ := len3 hl
  exact h n q b sc g cl kd dc pm an cd ct bn u v w
theorem bd_flags : Binds (fdArgs (st 5)) ["flags"] := binds1 fun _ _ _ _ _ _ _ _ _ _ _ _ _ _ => by kernel_rfl
theorem bd_varint : Binds (fdArgs (st 6)) ["iterator"] := binds1 fun _ _ _ _ _ _ _ _ _ _ _ _ _ _ => by kernel_rfl
theorem bd_term : Binds (fdArgs (st 59)) ["x"] := binds1 fun _ _ _ _ _ _ _ _ _ _ _ _ _ _ => by kernel_rfl
theorem bd_eof : Binds (fdArgs (st 60)) ["x"] := binds1 fun _ _ _ _ _ _ _ _ _ _ _ _ _ _ => by kernel_rfl
theorem bd_signs : Binds (fdArgs (st 62)) [] := binds0 fun _ _ _ _ _ _ _ _ _ _ _ _ _ => by kernel_rfl
theorem bd_numbers : Binds (fdArgs (st 63)) ["script"] := binds1 fun _ _ _ _ _ _ _ _ _ _ _ _ _ _ => by kernel_rfl
theorem bd_octets : Binds (fdArgs (st 67)) ["number"] := binds1 fun _ _ _ _ _ _ _ _ _ _ _ _ _ _ => by kernel_rfl
theorem bd_column : Binds (fdArgs (st 64)) ["lead", "size"] := binds2 fun _ _ _ _ _ _ _ _ _ _ _ _ _ _ _ => by kernel_rfl
theorem bd_parted : Binds (fdArgs (st 65)) ["leads", "pairs"] := binds2 fun _ _ _ _ _ _ _ _ _ _ _ _ _ _ _ => by kernel_rfl
theorem bd_chart : Binds (fdArgs (st 66)) ["pairs", "reports", "firsts"] := binds3 fun _ _ _ _ _ _ _ _ _ _ _ _ _ _ _ _ => by kernel_rfl
theorem bd_names : Binds (fdArgs (st 68)) ["base"] := binds1 fun _ _ _ _ _ _ _ _ _ _ _ _ _ _ => by kernel_rfl
theorem bd_ways : Binds (fdArgs (st 69)) ["after"] := binds1 fun _ _ _ _ _ _ _ _ _ _ _ _ _ _ => by kernel_rfl
theorem bd_due : Binds (fdArgs (st 70)) ["after"] := binds1 fun _ _ _ _ _ _ _ _ _ _ _ _ _ _ => by kernel_rfl
theorem bd_law : Binds (fdArgs (st 71)) ["script"] := binds1 fun _ _ _ _ _ _ _ _ _ _ _ _ _ _ => by kernel_rfl
theorem bd_init : Binds (fdArgs (clsAt (st 2) 1)) ["self", "ws"] := binds2 fun _ _ _ _ _ _ _ _ _ _ _ _ _ _ _ => by kernel_rfl
theorem bd_longest : Binds (fdArgs (clsAt (st 2) 2)) ["self"] := binds1 fun _ _ _ _ _ _ _ _ _ _ _ _ _ _ => by kernel_rfl
theorem bd_indent : Binds (fdArgs (clsAt (st 2) 3)) ["self", "tabsize"] := binds2 fun _ _ _ _ _ _ _ _ _ _ _ _ _ _ _ => by kernel_rfl
theorem bd_witness : Binds (fdArgs (clsAt (st 2) 5)) ["self", "other"] := binds2 fun _ _ _ _ _ _ _ _ _ _ _ _ _ _ _ => by kernel_rfl
noncomputable def cxOf (p : Program) (w : World) (h : Heap) (mg mb : Str → Option Value) : Cx := ⟨p, w, frag adrs h, 83, h, mg, mb⟩
section
variable {p : Program} {w : World} {h : Heap} {mg mb : Str → Option Value}
theorem sn1 (Y : Seen w h) (i : Nat) : (see (frag adrs h)).1.getD i none = (want w).1.getD i none := by rw [Y.s]
theorem sn2 (Y : Seen w h) (i : Nat) : (see (frag adrs h)).2.1.getD i none = (want w).2.1.getD i none := by rw [Y.s]
theorem sn3 (Y : Seen w h) (i : Nat) : (see (frag adrs h)).2.2.1.getD i none = (want w).2.2.1.getD i none := by rw [Y.s]
theorem sn4 (Y : Seen w h) (i : Nat) : (see (frag adrs h)).2.2.2.1.getD i none = (want w).2.2.2.1.getD i none := by rw [Y.s]
theorem sn5 (Y : Seen w h) (i : Nat) : (see (frag adrs h)).2.2.2.2.1.getD i true = (want w).2.2.2.2.1.getD i true := by rw [Y.s]
theorem sn6 (Y : Seen w h) (i : Nat) : (see (frag adrs h)).2.2.2.2.2.1.getD i none = (want w).2.2.2.2.2.1.getD i none := by rw [Y.s]
theorem sn7 (Y : Seen w h) (i : Nat) : (see (frag adrs h)).2.2.2.2.2.2.1.getD i none = (want w).2.2.2.2.2.2.1.getD i none := by rw [Y.s]
theorem sn8 (Y : Seen w h) : (see (frag adrs h)).2.2.2.2.2.2.2 = (want w).2.2.2.2.2.2.2 := by rw [Y.s]
theorem cx_ok (Y : Seen w h) (g : h.Ns mainGlobals mg) (b : h.Ns builtinsNs mb) (nl : h.NoLimit) (bt : ∀ x : Str, x ≠ "__name__" → mb x = bootBuiltins x) : (cxOf p w h mg mb).OK where
  k := frag_in _ _
  nl := nl
  g := g
  b := b
  boot := bt
  ga := sn3 Y 0
  gt := sn3 Y 1
  sa := sn3 Y 2
  po := sn5 Y 0
  hd := sn5 Y 1
  mkc := sn5 Y 2
  na := fun nm m => by
    rcases List.mem_cons.mp m with rfl | m
    · exact sn3 Y 3
    rcases List.mem_cons.mp m with rfl | m
    · exact sn3 Y 4
    rcases List.mem_cons.mp m with rfl | m
    · exact sn3 Y 5
    rcases List.mem_cons.mp m with rfl | m
    · exact sn3 Y 6
    rcases List.mem_cons.mp m with rfl | m
    · exact sn3 Y 7
    cases m
theorem gl_of (Y : Seen w h) (ok : (cxOf p w h mg mb).OK) : Gl (cxOf p w h mg mb) where
  ok := ok
  b := ⟨mg_none_of ok.k ok.g (sn4 Y 0), mg_none_of ok.k ok.g (sn4 Y 1), mg_none_of ok.k ok.g (sn4 Y 2), mg_none_of ok.k ok.g (sn4 Y 3), mg_none_of ok.k ok.g (sn4 Y 4), mg_none_of ok.k ok.g (sn4 Y 5), mg_none_of ok.k ok.g (sn4 Y 6), mg_none_of ok.k ok.g (sn4 Y 7), mg_none_of ok.k ok.g (sn4 Y 8), mg_none_of ok.k ok.g (sn4 Y 9), mg_none_of ok.k ok.g (sn4 Y 10), mg_none_of ok.k ok.g (sn4 Y 11), mg_none_of ok.k ok.g (sn4 Y 12)⟩
  k := ⟨mg_of ok.k ok.g (sn4 Y 13), sn5 Y 3, ⟨.type "type", (fcs_of (sn6 Y 0)).imp fun _ e => ⟨sn5 Y 4, e⟩⟩, ⟨.type "type", (fcs_of (sn6 Y 1)).imp fun _ e => ⟨sn5 Y 4, e⟩⟩, mfn_of ok (sn2 Y 0) bd_init, mfn_of ok (sn2 Y 1) bd_longest, mfn_of ok (sn2 Y 2) bd_indent⟩
  t := ⟨⟨88, mg_of ok.k ok.g (sn4 Y 14), (show flagI2.map (fun p => (PyData.int p.1, p.2)) = flagTab by kernel_rfl) ▸ KTD.keyed_of_look (D := flagI2) (a := 88) (get := fun a => List.lookup a (frag adrs h)) (fun a o e => ok.k a o e) (sn5 Y 5) p w⟩, ⟨103, mg_of ok.k ok.g (sn4 Y 15), (show tokI2.map (fun p => (PyData.str p.1, p.2)) = tokTab by kernel_rfl) ▸ KTD.strTab_of_look (D := tokI2) (a := 103) (get := fun a => List.lookup a (frag adrs h)) p w (fun a o e => ok.k a o e) (sn5 Y 6) (by decide +kernel) (sn8 Y)⟩, gint_of ok (sn7 Y 0), gint_of ok (sn7 Y 1)⟩
  f := ⟨gfn_of ok (sn1 Y 0) bd_flags, gfn_of ok (sn1 Y 1) bd_varint, gfn_of ok (sn1 Y 2) bd_term, gfn_of ok (sn1 Y 3) bd_eof, gfn_of ok (sn1 Y 4) bd_signs, gfn_of ok (sn1 Y 5) bd_numbers, gfn_of ok (sn1 Y 6) bd_octets⟩
theorem glw_of (Y : Seen w h) (ok : (cxOf p w h mg mb).OK) : GlW (cxOf p w h mg mb) := ⟨mfn_of ok (sn2 Y 3) bd_witness, gfn_of ok (sn1 Y 7) bd_column, gfn_of ok (sn1 Y 8) bd_parted, gfn_of ok (sn1 Y 9) bd_chart, gfn_of ok (sn1 Y 10) bd_names, gfn_of ok (sn1 Y 11) bd_ways, gfn_of ok (sn1 Y 12) bd_due⟩
theorem law_end {s : Shared} (Y : Seen w s.heap) (g : s.heap.Ns mainGlobals mg) (b : s.heap.Ns builtinsNs mb) (nl : s.heap.NoLimit) (bt : ∀ x : Str, x ≠ "__name__" → mb x = bootBuiltins x) (hg : s.gens = #[]) {fa : Addr} (hmg : mg "law" = some (.ref fa)) {cl : Str → Option Addr} {mean : ExcName → Option Value} {cm : ClaimW} {R : WRecords} {args : List WData} {vals : List Value}
    (hs : WShape.hasAll R args [.list .int] = true) (hw : WellAll w.params s.heap vals args) (hn : ∀ xs : List Int, args = [.list (xs.map .int)] → xs.length ≤ 63) (nr : ∀ e, cm.raises args e = false) (po : cm.post args (.bool true) args = true) :
    wpAny (model p w) callerA (call (.ref fa) vals) (fun v s' => GoodWG cm cl mean args s (.ok (.ret v)) s') (fun e s' => GoodWG cm cl mean args s (.error e) s') s := by
  have ok := cx_ok (p := p) Y g b nl bt
  obtain ⟨a, xs, rfl, rfl, rd⟩ := args_of hs hw
  obtain ⟨f, o, fd, h1, h2, h3, h4, h5, h6, h6', h7, h8, h9, h10⟩ := gfn_of ok (sn1 Y 13) bd_law
  cases (show f = fa by have e := h1.symm.trans hmg; cases e; rfl)
  refine enter_call (codeAny_mono (law_code (c := cxOf p w s.heap mg mb) (P := ⟨0, 0, 0⟩) (X := fun _ => False) (R := fun r s' => GoodW cm cl mean [.list (xs.map .int)] s r s') (gl_of Y ok) (glw_of Y ok) (ScOK.fn (ScOK.of (by kernel_rfl)) h5 h6 h6' h7 h8 h9 h10) h2 h3 h4 ⟨ok, ⟨rfl, by decide, by decide⟩, fun _ _ e => e, fun _ e => e.elim, ⟨fun _ e => (nomatch e), fun _ e => (nomatch e)⟩⟩ rd (hn xs rfl) fun h' tk k => ?_) fun _ _ q => q.toG)
  exact ⟨.inl ⟨_, .bool true, [], rfl, nr, .bool true, po, fun _ => ⟨.nil, fun _ m => nomatch m⟩⟩, k, rfl, hg⟩
end
end
end
section
open PySem PySem.W PyProof.Rows
set_option compiler.extract_closed false in
def pw : Program := { wp.val with main := { wp.val.main with body := [st 0, st 1, st 2, st 3, st 4, st 5, st 6, st 7, st 8, st 9, st 10, st 11, st 12, st 13, st 14, st 15, st 16, st 17, st 18, st 19, st 20, st 21, st 22, st 23, st 24, st 25, st 26, st 27, st 28, st 29, st 30, st 31, st 32, st 33, st 34, st 35, st 36, st 37, st 38, st 39, st 40, st 41, st 42, st 43, st 44, st 45, st 46, st 47, st 48, st 49, st 50, st 51, st 52, st 53, st 54, st 55, st 56, st 57, st 58, st 59, st 60, st 61, st 62, st 63, st 64, st 65, st 66, st 67, st 68, st 69, st 70, st 71] } }
set_option compiler.extract_closed false in
def row : OpenLaw := { prog := pw, name := "law", about := ["Whitespace", "not_equal_witness"], foot := 10, most := some 63, bound := none, writes := false }
theorem row_eq : PySem.Challenge.rw_sl0023_01 = row := by kernel_rfl
theorem args_len {args : List WData} (hp : row.row.claim.pre args = true) (xs : List Int) (e : args = [.list (xs.map .int)]) : xs.length ≤ 63 := by
  subst e
  have h := condW_of (pre_splitW (r := row.row.toRowW) hp).2 (w_and (w_not (w_lt w_lit (w_len_list (w_arg rfl)))) w_lit)
  rw [List.length_map, Bool.and_true, Bool.not_eq_true', decide_eq_false_iff_not] at h
  exact Int.ofNat_le.mp (Int.not_lt.mp h)
theorem args_post {args : List WData} : row.row.claim.post args (.bool true) args = true := postW_of (X := true) rfl (by kernel_rfl) rfl
theorem args_nr (args : List WData) (e : ExcName) : row.row.claim.raises args e = false := rfl
set_option maxRecDepth 100000 in
set_option maxHeartbeats 8000000 in
theorem hd (hc : True) : row.Holds := by
  w_on; o_law
  o_head hook
  case hw => w_witness2
  intro w s₀ s₁ mg mb G Y fa o pm cd doc dV kV ho hd hcd hD hmg hg args vals as hpre hlay hrd hwl hlo
  exact law_end Y G.T.g G.T.b G.T.nolimit G.T.builtins hg hmg (pre_splitW hpre).1 hwl (args_len hpre) (args_nr args) args_post
end
end Mine.Internal
theorem PySem.Challenge.cw_sl0023_01_holds : PySem.Challenge.rw_sl0023_01.Holds := by
  exact Mine.Internal.row_eq ▸ Mine.Internal.hd trivial
