import PyProof.Rows.All
import Wide.All
import OpenK.AllK
import Wide.FinOn
import PySem.Challenge.RW_kl0297_01
open PySem PySem.W PyProof.Rows
set_option Elab.async false
namespace Mine
def isName : Stmt → Bool
  | .Assign [.Name n _] _ _ => n == Str.ofString "__name__"
  | _ => false
def view : Program := { PySem.Challenge.pw_kl0297_01 with main := { PySem.Challenge.pw_kl0297_01.main with body := PySem.Challenge.pw_kl0297_01.main.body.filter fun s => !isName s } }
set_option maxRecDepth 100000
theorem said : OpenLaw.wellSaid PySem.Challenge.rw_kl0297_01 = true := by kernel_rfl
local macro_rules | `(tactic| o_law) => `(tactic| refine holds_law said fun said0 => ?_)
local macro_rules | `(tactic| o_head $H) => `(tactic| (
    refine holds_open (q := view) (loose := [Str.ofString "Whitespace"]) (Xt := fun s => xlAt view [] s && recOk (RowW.records (OpenRow.toRowW PySem.Challenge.rw_kl0297_01.row)) s) (XP := XL view []) (Yf := Hook.obs $H) (Ya := Hook.val $H) (YP := Hook.says $H) (N := 2646) ?hl (Hook.of $H) (Hook.keeps $H) (fun s e => xl_of s (Bool.and_eq_true_iff.mp e).1) XL.keeps (by rfl) (by rfl) (by rfl) (fun s e => recFacts_of (Bool.and_eq_true_iff.mp e).2) (by rfl) (row_said said) (by decide +kernel) ⟨rfl, rfl, rfl, rfl, rfl, by decide +kernel⟩ ?hw ?hc;
    (case hl => exact LeftO.of_split "special-get-raises" (fun w => by kernel_rfl))))
set_option maxHeartbeats 8000000 in
open_top hd for PySem.Challenge.rw_kl0297_01
end Mine
open PySem.Calls
set_option linter.all false
set_option maxRecDepth 100000
namespace KL
section

abbrev P0 : Program := PySem.Challenge.pw_kl0297_01
/-- data trees -/
inductive D where
  | none
  | bool (b : Bool)
  | int (i : Int)
  | str (s : Str)
  | list (ds : List D)
  | tuple (ds : List D)
  | inst (C : Nat) (fs : List (Str × D))
  | ptr (a : Nat)
  | leaf (P : Addr → Obj → Prop)
  | ty (n : String)

abbrev AV := Addr → Prop
abbrev Ext (h h' : Heap) : Prop := ∀ b o, h.get? b = some o → h'.get? b = some o
theorem Ext.refl (h : Heap) : Ext h h := fun _ _ e => e
theorem Ext.trans {a b c : Heap} (x : Ext a b) (y : Ext b c) : Ext a c := fun p o e => y p o (x p o e)
theorem Ext.push (h : Heap) (o : Obj) : Ext h (h.push o) := fun _ _ e => Heap.get?_push_of_some o e

abbrev lstO (vs : List Value) (n : Nat) : Obj := { cls := .type "list", data := .seq vs.toArray n }
abbrev tupO (vs : List Value) (n : Nat) : Obj := { cls := .type "tuple", data := .seq vs.toArray n }
abbrev dctO (es : List DictEntry) (n : Nat) : Obj := { cls := .type "dict", data := .dict es.toArray n }

mutual
/-- value v reads as d in h, by objects that are not in av -/
inductive At (av : AV) (h : Heap) : Value → D → Prop
  | none : At av h .none .none
  | bool (b : Bool) : At av h (.bool b) (.bool b)
  | int (i : Int) (t : Tok) : At av h (.int i t) (.int i)
  | str (s : Str) (t : Tok) : At av h (.str s t) (.str s)
  | list {a : Addr} {vs : List Value} {ds : List D} {n : Nat} (hn : ¬ av a) (ho : h.get? a = some (lstO vs n)) (hs : Ats av h vs ds) : At av h (.ref a) (.list ds)
  | tuple {a : Addr} {vs : List Value} {ds : List D} {n : Nat} (hn : ¬ av a) (ho : h.get? a = some (tupO vs n)) (hs : Ats av h vs ds) : At av h (.ref a) (.tuple ds)
  | inst {x dx C : Addr} {es : List DictEntry} {fs : List (Str × D)} {n : Nat} (hx : ¬ av x) (hd : ¬ av dx) (ho : h.get? x = some (instObj C dx)) (hdo : h.get? dx = some (dctO es n)) (hs : Fds av h es fs) : At av h (.ref x) (.inst C fs)
  | ptr (a : Addr) : At av h (.ref a) (.ptr a)
  | ty (n : String) : At av h (.type n) (.ty n)
  | leaf {a : Addr} {o : Obj} {P : Addr → Obj → Prop} (hn : ¬ av a) (ho : h.get? a = some o) (hp : P a o) : At av h (.ref a) (.leaf P)
inductive Ats (av : AV) (h : Heap) : List Value → List D → Prop
  | nil : Ats av h [] []
  | cons {v : Value} {d : D} {vs : List Value} {ds : List D} (hv : At av h v d) (hs : Ats av h vs ds) : Ats av h (v :: vs) (d :: ds)
inductive Fds (av : AV) (h : Heap) : List DictEntry → List (Str × D) → Prop
  | nil : Fds av h [] []
  | cons {hash : Int} {x : Str} {t : Tok} {v : Value} {d : D} {es : List DictEntry} {fs : List (Str × D)} (hv : At av h v d) (hs : Fds av h es fs) : Fds av h (⟨hash, .str x t, v⟩ :: es) ((x, d) :: fs)
end

mutual
theorem At.mono {av av' : AV} {h h' : Heap} (ha : ∀ a o, ¬ av a → h.get? a = some o → ¬ av' a ∧ h'.get? a = some o) : ∀ {v : Value} {d : D}, At av h v d → At av' h' v d
  | _, _, .none => .none
  | _, _, .bool b => .bool b
  | _, _, .int i t => .int i t
  | _, _, .str s t => .str s t
  | _, _, .list hn ho hs => .list (ha _ _ hn ho).1 (ha _ _ hn ho).2 (Ats.mono ha hs)
  | _, _, .tuple hn ho hs => .tuple (ha _ _ hn ho).1 (ha _ _ hn ho).2 (Ats.mono ha hs)
  | _, _, .inst hx hd ho hdo hs => .inst (ha _ _ hx ho).1 (ha _ _ hd hdo).1 (ha _ _ hx ho).2 (ha _ _ hd hdo).2 (Fds.mono ha hs)
  | _, _, .ptr a => .ptr a
  | _, _, .ty v => .ty v
  | _, _, .leaf hn ho hp => .leaf (ha _ _ hn ho).1 (ha _ _ hn ho).2 hp
theorem Ats.mono {av av' : AV} {h h' : Heap} (ha : ∀ a o, ¬ av a → h.get? a = some o → ¬ av' a ∧ h'.get? a = some o) : ∀ {vs : List Value} {ds : List D}, Ats av h vs ds → Ats av' h' vs ds
  | _, _, .nil => .nil
  | _, _, .cons hv hs => .cons (hv.mono ha) (Ats.mono ha hs)
theorem Fds.mono {av av' : AV} {h h' : Heap} (ha : ∀ a o, ¬ av a → h.get? a = some o → ¬ av' a ∧ h'.get? a = some o) : ∀ {es : List DictEntry} {fs : List (Str × D)}, Fds av h es fs → Fds av' h' es fs
  | _, _, .nil => .nil
  | _, _, .cons hv hs => .cons (hv.mono ha) (Fds.mono ha hs)
end
theorem At.ext {av : AV} {h h' : Heap} (e : Ext h h') {v : Value} {d : D} (x : At av h v d) : At av h' v d := x.mono fun a o n q => ⟨n, e a o q⟩
theorem Ats.ext {av : AV} {h h' : Heap} (e : Ext h h') {v : List Value} {d : List D} (x : Ats av h v d) : Ats av h' v d := x.mono fun a o n q => ⟨n, e a o q⟩
/-- off av nothing is lost -/
abbrev Off (av : AV) (h h' : Heap) : Prop := ∀ a o, ¬ av a → h.get? a = some o → h'.get? a = some o
theorem At.off {av : AV} {h h' : Heap} (e : Off av h h') {v : Value} {d : D} (x : At av h v d) : At av h' v d := x.mono fun a o n q => ⟨n, e a o n q⟩
theorem Ats.off {av : AV} {h h' : Heap} (e : Off av h h') {v : List Value} {d : List D} (x : Ats av h v d) : Ats av h' v d := x.mono fun a o n q => ⟨n, e a o n q⟩
/-- more live addresses, all of them new -/
abbrev More (av av' : AV) (h : Heap) : Prop := ∀ a, av' a → av a ∨ h.get? a = none
theorem More.some {av av' : AV} {h : Heap} (m : More av av' h) {a : Addr} {o : Obj} (n : ¬ av a) (q : h.get? a = some o) : ¬ av' a := fun x => (m a x).elim n fun e => by rw [e] at q; cases q
theorem At.more {av av' : AV} {h : Heap} (m : More av av' h) {v : Value} {d : D} (x : At av h v d) : At av' h v d := x.mono fun _ _ n q => ⟨m.some n q, q⟩
theorem Ats.more {av av' : AV} {h : Heap} (m : More av av' h) {v : List Value} {d : List D} (x : Ats av h v d) : Ats av' h v d := x.mono fun _ _ n q => ⟨m.some n q, q⟩
theorem At.less {av av' : AV} {h : Heap} (m : ∀ a, av' a → av a) {v : Value} {d : D} (x : At av h v d) : At av' h v d := x.mono fun a _ n q => ⟨fun y => n (m a y), q⟩
theorem Ats.less {av av' : AV} {h : Heap} (m : ∀ a, av' a → av a) {v : List Value} {d : List D} (x : Ats av h v d) : Ats av' h v d := x.mono fun a _ n q => ⟨fun y => n (m a y), q⟩

theorem Ats.length {av : AV} {h : Heap} : ∀ {vs : List Value} {ds : List D}, Ats av h vs ds → vs.length = ds.length
  | _, _, .nil => rfl
  | _, _, .cons _ t => by simp [Ats.length t]
theorem Ats.get {av : AV} {h : Heap} : ∀ {vs : List Value} {ds : List D}, Ats av h vs ds → ∀ {i : Nat} {d : D}, ds[i]? = some d → ∃ v, vs[i]? = some v ∧ At av h v d
  | _, _, .nil, i, d, e => by simp at e
  | _, _, .cons hv _, 0, d, e => by simp at e; subst e; exact ⟨_, by simp, hv⟩
  | _, _, .cons _ t, i + 1, d, e => by simpa using t.get (i := i) (by simpa using e)
theorem Ats.getV {av : AV} {h : Heap} : ∀ {vs : List Value} {ds : List D}, Ats av h vs ds → ∀ {i : Nat} {v : Value}, vs[i]? = some v → ∃ d, ds[i]? = some d ∧ At av h v d
  | _, _, .nil, i, d, e => by simp at e
  | _, _, .cons hv _, 0, d, e => by simp at e; subst e; exact ⟨_, by simp, hv⟩
  | _, _, .cons _ t, i + 1, d, e => by simpa using t.getV (i := i) (by simpa using e)
theorem Ats.append {av : AV} {h : Heap} : ∀ {vs : List Value} {ds : List D}, Ats av h vs ds → ∀ {vs' : List Value} {ds' : List D}, Ats av h vs' ds' → Ats av h (vs ++ vs') (ds ++ ds')
  | _, _, .nil, _, _, y => y
  | _, _, .cons hv t, _, _, y => .cons hv (t.append y)
theorem Ats.snoc {av : AV} {h : Heap} {vs : List Value} {ds : List D} (x : Ats av h vs ds) {v : Value} {d : D} (y : At av h v d) : Ats av h (vs ++ [v]) (ds ++ [d]) := x.append (.cons y .nil)
theorem Ats.set {av : AV} {h : Heap} : ∀ {vs : List Value} {ds : List D}, Ats av h vs ds → ∀ (i : Nat) {v : Value} {d : D}, At av h v d → Ats av h (vs.set i v) (ds.set i d)
  | _, _, .nil, _, _, _, _ => .nil
  | _, _, .cons _ t, 0, _, _, y => .cons y t
  | _, _, .cons hv t, i + 1, _, _, y => .cons hv (t.set i y)
theorem Ats.take {av : AV} {h : Heap} : ∀ {vs : List Value} {ds : List D}, Ats av h vs ds → ∀ (n : Nat), Ats av h (vs.take n) (ds.take n)
  | _, _, .nil, n => by simp; exact .nil
  | _, _, .cons _ _, 0 => .nil
  | _, _, .cons hv t, n + 1 => .cons hv (t.take n)
theorem Ats.drop {av : AV} {h : Heap} : ∀ {vs : List Value} {ds : List D}, Ats av h vs ds → ∀ (n : Nat), Ats av h (vs.drop n) (ds.drop n)
  | _, _, .nil, n => by simp; exact .nil
  | _, _, .cons hv t, 0 => .cons hv t
  | _, _, .cons _ t, n + 1 => t.drop n

/-- the written part of the heap, and the top -/
structure GB (w : World) (h : Heap) : Prop where
  K : (Mine.hd.heap_1 w.params).In h
  top : ∃ mg mb, h.Ns mainGlobals mg ∧ h.Ns builtinsNs mb ∧ ∀ x : Str, x ≠ "__name__" → mb x = bootBuiltins x
  nolimit : h.NoLimit
theorem GB.ext {w : World} {h h' : Heap} (x : GB w h) (e : Ext h h') : GB w h' :=
  ⟨fun a o q => e _ _ (x.K a o q), let ⟨mg, mb, a, b, c⟩ := x.top; ⟨mg, mb, a.keeps e, b.keeps e, c⟩, x.nolimit.keeps e⟩

/-- what a name holds: a datum, or a mutable object's address -/
inductive SV where
  | d (d : D)
  | m (a : Addr)
def VOk (av : AV) (h : Heap) : Value → SV → Prop
  | v, .d d => At av h v d
  | v, .m a => v = .ref a
abbrev Sg := List (Str × SV)

/-- a mutable object that the frame owns -/
inductive MO where
  | list (ds : List D)
  | dict (kh : Str → Int) (fs : List (Str × D))
  | inst (C dx : Addr)
  | tab (w : World) (kvs : List (Str × Int))
/-- the keys are texts, with their own hashes -/
def KeysOk (kh : Str → Int) (es : List DictEntry) : Prop := ∀ e ∈ es, ∃ x t, e.key = .str x t ∧ e.hash = kh x
def MO.holds (av : AV) (h : Heap) (a : Addr) : MO → Prop
  | .list ds => ∃ vs n, h.get? a = some (lstO vs n) ∧ Ats av h vs ds
  | .dict kh fs => ∃ es n, h.get? a = some (dctO es n) ∧ Fds av h es fs ∧ KeysOk kh es
  | .inst C dx => h.get? a = some (instObj C dx)
  | .tab w kvs => (a == sysModules) = false ∧ ∃ vals : List (Str × Int × Tok), (vals.map fun v => (v.1, v.2.1)) = kvs ∧ h.DictOf (strKind P0 w) a (intPairs vals)
theorem MO.holds_mono {av av' : AV} {h h' : Heap} {a : Addr} (ha : ∀ a o, ¬ av a → h.get? a = some o → ¬ av' a ∧ h'.get? a = some o) (own : ∀ o, h.get? a = some o → h'.get? a = some o) : ∀ {mo : MO}, mo.holds av h a → mo.holds av' h' a
  | .list ds, ⟨vs, n, ho, hs⟩ => ⟨vs, n, own _ ho, hs.mono ha⟩
  | .dict kh fs, ⟨es, n, ho, hs, hk⟩ => ⟨es, n, own _ ho, hs.mono ha, hk⟩
  | .inst C dx, ho => own _ ho
  | .tab w kvs, ⟨z, vals, e, o, es, ep, ho, r⟩ => ⟨z, vals, e, o, es, ep, own _ ho, r⟩
theorem MO.holds_some {av : AV} {h : Heap} {a : Addr} : ∀ {mo : MO}, mo.holds av h a → ∃ o, h.get? a = some o
  | .list ds, ⟨vs, n, ho, hs⟩ => ⟨_, ho⟩
  | .dict kh fs, ⟨es, n, ho, _⟩ => ⟨_, ho⟩
  | .inst C dx, ho => ⟨_, ho⟩
  | .tab w kvs, ⟨z, vals, e, o, es, ep, ho, r⟩ => ⟨_, ho⟩
abbrev Mu := List (Addr × MO)

structure S (w : World) (g : Heap) (env : Env) (av : AV) (h : Heap) (σ : Sg) (μ : Mu) : Prop where
  base : GB w g
  ext : Ext g h
  kind : env.scope.kind = .function
  glob : env.globals = mainGlobals
  blt : env.builtins = builtinsNs
  ns : ∃ m, h.Ns env.locals m ∧ ∀ x sv, σ.lookup x = some sv → env.kindOf x = some .local → ∃ v, m x = some v ∧ VOk av h v sv
  cells : ∀ x sv, σ.lookup x = some sv → env.kindOf x ≠ some .local → env.kindOf x = some .cell ∧ ∃ c v, env.cells.lookup x = some c ∧ h.IsCell c (some v) ∧ VOk av h v sv
  ownL : av env.locals ∧ g.get? env.locals = none
  ownC : ∀ x c, env.cells.lookup x = some c → av c ∧ g.get? c = none ∧ c ≠ env.locals ∧ ∃ v, h.IsCell c v
  apart : ∀ x y c, env.cells.lookup x = some c → env.cells.lookup y = some c → x = y
  dom : ∀ a, av a → ∃ o, h.get? a = some o
  mu : ∀ a mo, μ.lookup a = some mo → mo.holds av h a ∧ av a ∧ g.get? a = none ∧ a ≠ env.locals ∧ ∀ x c, env.cells.lookup x = some c → c ≠ a

theorem VOk.mono {av av' : AV} {h h' : Heap} (ha : ∀ a o, ¬ av a → h.get? a = some o → ¬ av' a ∧ h'.get? a = some o) {v : Value} {sv : SV} (x : VOk av h v sv) : VOk av' h' v sv := by
  cases sv with
  | d d => exact At.mono ha x
  | m a => exact x
/-- the frame goes on to another heap: all that stands off av stands, and the frame's own stands -/
theorem S.go {w g env av av' h h' σ μ} (x : S w g env av h σ μ) (e : Ext g h') (ha : ∀ a o, ¬ av a → h.get? a = some o → ¬ av' a ∧ h'.get? a = some o)
    (up : ∀ a, av a → av' a) (dom : ∀ a, av' a → ∃ o, h'.get? a = some o)
    (own : ∀ a o, (a = env.locals ∨ (∃ y, env.cells.lookup y = some a) ∨ ∃ mo, μ.lookup a = some mo) → h.get? a = some o → h'.get? a = some o) : S w g env av' h' σ μ where
  base := x.base
  ext := e
  kind := x.kind
  glob := x.glob
  blt := x.blt
  ns := by
    obtain ⟨m, ⟨o, es, ep, ho, r⟩, hm⟩ := x.ns
    exact ⟨m, ⟨o, es, ep, own _ _ (.inl rfl) ho, r⟩, fun y sv q k => let ⟨v, a, b⟩ := hm y sv q k; ⟨v, a, b.mono ha⟩⟩
  cells := fun y sv q k => by
    obtain ⟨k1, c, v, l, ⟨o, ho, hd⟩, b⟩ := x.cells y sv q k
    exact ⟨k1, c, v, l, ⟨o, own _ _ (.inr (.inl ⟨_, l⟩)) ho, hd⟩, b.mono ha⟩
  ownL := ⟨up _ x.ownL.1, x.ownL.2⟩
  ownC := fun y c q => by
    obtain ⟨a, b, d, v, o, ho, hd⟩ := x.ownC y c q
    exact ⟨up _ a, b, d, v, o, own _ _ (.inr (.inl ⟨_, q⟩)) ho, hd⟩
  apart := x.apart
  dom := dom
  mu := fun a mo q => by
    obtain ⟨b, c, d, e, f⟩ := x.mu a mo q
    exact ⟨MO.holds_mono ha (fun o => own _ o (.inr (.inr ⟨_, q⟩))) b, up _ c, d, e, f⟩
/-- the heap has only grown -/
theorem S.grow {w g env av h h' σ μ} (x : S w g env av h σ μ) (e : Ext h h') : S w g env av h' σ μ :=
  x.go (x.ext.trans e) (fun a o n q => ⟨n, e a o q⟩) (fun _ q => q) (fun a q => let ⟨o, ho⟩ := x.dom a q; ⟨o, e _ _ ho⟩) fun a o _ q => e a o q
/-- grown, and new live addresses -/
theorem S.live {w g env av av' h h' σ μ} (x : S w g env av h σ μ) (e : Ext h h') (up : ∀ a, av a → av' a) (mo : More av av' h) (dom : ∀ a, av' a → ∃ o, h'.get? a = some o) : S w g env av' h' σ μ :=
  x.go (x.ext.trans e) (fun a o n q => ⟨mo.some n q, e a o q⟩) up dom fun a o _ q => e a o q
theorem S.weak {w g env av h σ σ' μ} (x : S w g env av h σ μ) (hs : ∀ y sv, σ'.lookup y = some sv → σ.lookup y = some sv) : S w g env av h σ' μ :=
  { x with
    ns := let ⟨m, a, b⟩ := x.ns; ⟨m, a, fun y sv q k => b y sv (hs y sv q) k⟩
    cells := fun y sv q k => x.cells y sv (hs y sv q) k }

def upd (s : Shared) (h : Heap) (tk : Nat) : Shared := { s with heap := h, toks := tk }
theorem upd_heap (s h tk) : (upd s h tk).heap = h := rfl
theorem upd_toks (s h tk) : (upd s h tk).toks = tk := rfl
theorem upd_upd (s h tk h' tk') : upd (upd s h tk) h' tk' = upd s h' tk' := rfl

end
section

structure AOk (A : Around) (n : Nat) : Prop where
  hd : A.handled = none
  dp : A.depth + n < recursionLimit
  un : A.units + 10 * n < cLine
theorem AOk.le {A : Around} {n m : Nat} (x : AOk A n) (h : m ≤ n) : AOk A m := ⟨x.hd, by have := x.dp; omega, by have := x.un; omega⟩
theorem AOk.u {A : Around} {n : Nat} (x : AOk A n) : A.units < cLine := by have := x.un; omega
theorem AOk.room {A : Around} {n : Nat} (x : AOk A n) : A.depth < recursionLimit := by have := x.dp; omega
theorem AOk.deeper {A : Around} {n : Nat} (x : AOk A (n + 1)) (env : Env) : AOk (A.deeper env) n :=
  ⟨x.hd, by have := x.dp; show A.depth + 1 + n < _; omega, by have := x.un; show A.units + 3 + 10 * n < _; omega⟩

/-- what is left of the live addresses -/
theorem S.less {w g env av av' h σ μ} (x : S w g env av' h σ μ) (up : ∀ a, av a → av' a) (hL : av env.locals) (hC : ∀ y c, env.cells.lookup y = some c → av c) (hM : ∀ a mo, μ.lookup a = some mo → av a) : S w g env av h σ μ where
  base := x.base
  ext := x.ext
  kind := x.kind
  glob := x.glob
  blt := x.blt
  ns := let ⟨m, a, b⟩ := x.ns; ⟨m, a, fun y sv q k => let ⟨v, e, f⟩ := b y sv q k; ⟨v, e, f.mono fun a _ n q => ⟨fun z => n (up a z), q⟩⟩⟩
  cells := fun y sv q k => let ⟨k1, c, v, l, ic, b⟩ := x.cells y sv q k; ⟨k1, c, v, l, ic, b.mono fun a _ n q => ⟨fun z => n (up a z), q⟩⟩
  ownL := ⟨hL, x.ownL.2⟩
  ownC := fun y c q => ⟨hC y c q, (x.ownC y c q).2⟩
  apart := x.apart
  dom := fun a q => x.dom a (up a q)
  mu := fun a mo q => by
    obtain ⟨b, _, d, e, f⟩ := x.mu a mo q
    exact ⟨MO.holds_mono (fun a _ n q => ⟨fun z => n (up a z), q⟩) (fun _ r => r) b, hM a mo q, d, e, f⟩

theorem mem_of_lookupM {α : Type} : ∀ {l : List (Addr × α)} {n : Addr} {c : α}, l.lookup n = some c → n ∈ l.map (·.1)
  | (k, v) :: r, n, c, h => by
    rw [List.lookup_cons] at h
    cases hb : n == k with
    | true => rw [beq_iff_eq.mp hb]; exact List.mem_cons_self
    | false => rw [hb] at h; exact List.mem_cons_of_mem _ (mem_of_lookupM h)

def ownList (env : Env) (μ : Mu) : List Addr := env.locals :: (env.cells.map (·.2) ++ μ.map (·.1))
theorem gone {h : Heap} {as : List Addr} {a : Addr} (hm : a ∈ as) : (hideAll h as).get? a = none := hideAll_none as hm

/-- a new base: all that stands, less what the frame owns and X -/
theorem S.rebase {w g env av h σ μ} (x : S w g env av h σ μ) (X : List Addr) (hX : ∀ a ∈ X, g.get? a = none) (hc : ∀ y c, (y, c) ∈ env.cells → env.cells.lookup y = some c) (hm : ∀ a mo, (a, mo) ∈ μ → ∃ mo', μ.lookup a = some mo') :
    ∃ g', S w g' env av h σ μ ∧ Ext g g' ∧ (∀ a o, a ∉ ownList env μ → a ∉ X → h.get? a = some o → g'.get? a = some o) ∧ (∀ a ∈ X, g'.get? a = none) := by
  refine ⟨hideAll h (ownList env μ ++ X), ?_, ?_, ?_, ?_⟩
  case refine_3 => exact fun a o n1 n2 e => hideAll_get _ e fun q => (List.mem_append.mp q).elim n1 n2
  case refine_4 => exact fun a q => gone (List.mem_append_right _ q)
  case refine_2 =>
    intro b o e
    refine hideAll_get _ (x.ext _ _ e) fun q => ?_
    rcases List.mem_append.mp q with q | q
    · rcases List.mem_cons.mp q with rfl | q
      · rw [x.ownL.2] at e; cases e
      · rcases List.mem_append.mp q with q | q
        · obtain ⟨⟨y, c⟩, hp, rfl⟩ := List.mem_map.mp q
          have := (x.ownC y c (hc _ _ hp)).2.1
          dsimp only at e; rw [this] at e; cases e
        · obtain ⟨⟨a, mo⟩, hp, rfl⟩ := List.mem_map.mp q
          obtain ⟨mo', hl⟩ := hm _ _ hp
          have := (x.mu a mo' hl).2.2.1
          dsimp only at e; rw [this] at e; cases e
    · rw [hX _ q] at e; cases e
  case refine_1 =>
    have keepG : Ext g (hideAll h (ownList env μ ++ X)) := by
      intro b o e
      refine hideAll_get _ (x.ext _ _ e) fun q => ?_
      rcases List.mem_append.mp q with q | q
      · rcases List.mem_cons.mp q with rfl | q
        · rw [x.ownL.2] at e; cases e
        · rcases List.mem_append.mp q with q | q
          · obtain ⟨⟨y, c⟩, hp, rfl⟩ := List.mem_map.mp q
            have := (x.ownC y c (hc _ _ hp)).2.1
            dsimp only at e; rw [this] at e; cases e
          · obtain ⟨⟨a, mo⟩, hp, rfl⟩ := List.mem_map.mp q
            obtain ⟨mo', hl⟩ := hm _ _ hp
            have := (x.mu a mo' hl).2.2.1
            dsimp only at e; rw [this] at e; cases e
      · rw [hX _ q] at e; cases e
    exact {
      base := x.base.ext keepG
      ext := fun b o e => of_hideAll _ e
      kind := x.kind
      glob := x.glob
      blt := x.blt
      ns := x.ns
      cells := x.cells
      ownL := ⟨x.ownL.1, gone (List.mem_append_left _ (.head _))⟩
      ownC := fun y c q => by
        obtain ⟨a, b, d⟩ := x.ownC y c q
        exact ⟨a, gone (List.mem_append_left _ (.tail _ (List.mem_append_left _ (List.mem_map.mpr ⟨(y, c), PySem.mem_of_lookup q, rfl⟩)))), d⟩
      apart := x.apart
      dom := x.dom
      mu := fun a mo q => by
        obtain ⟨b, c, d, e⟩ := x.mu a mo q
        exact ⟨b, c, gone (List.mem_append_left _ (.tail _ (List.mem_append_right _ (mem_of_lookupM q)))), e⟩ }

/-- back to an older base -/
theorem S.unbase {w g g' env av h σ μ} (x : S w g' env av h σ μ) (hg : GB w g) (e : Ext g g') : S w g env av h σ μ :=
  have nn : ∀ a, g'.get? a = none → g.get? a = none := fun a q => by
    cases r : g.get? a with
    | none => rfl
    | some o => rw [e _ _ r] at q; cases q
  { x with
    base := hg
    ext := e.trans x.ext
    ownL := ⟨x.ownL.1, nn _ x.ownL.2⟩
    ownC := fun y c q => let ⟨a, b, d⟩ := x.ownC y c q; ⟨a, nn _ b, d⟩
    mu := fun a mo q => let ⟨b, c, d, f⟩ := x.mu a mo q; ⟨b, c, nn _ d, f⟩ }

theorem VOk.sameBut {av : AV} {h h' : Heap} {a : Addr} (ha : av a) (hs : Heap.SameBut a h h') {v : Value} {sv : SV} (x : VOk av h v sv) : VOk av h' v sv :=
  x.mono fun b o n q => ⟨n, (hs.2 b fun e => n (e ▸ ha)).trans q⟩
theorem MO.holds_sameBut {av : AV} {h h' : Heap} {a b : Addr} {mo : MO} (ha : av a) (hs : Heap.SameBut a h h') (hab : b ≠ a) (x : mo.holds av h b) : mo.holds av h' b :=
  MO.holds_mono (fun c o n q => ⟨n, (hs.2 c fun e => n (e ▸ ha)).trans q⟩) (fun _ q => (hs.2 b hab).trans q) x

theorem lookup_cons_ne {β : Type} {σ : List (Str × β)} {n y : Str} {sv : β} (h : y ≠ n) : List.lookup y ((n, sv) :: σ) = σ.lookup y := by
  rw [List.lookup_cons]
  have : (y == n) = false := by simpa using h
  rw [this]
theorem lookup_cons_eq {β : Type} {σ : List (Str × β)} {n : Str} {sv : β} : List.lookup n ((n, sv) :: σ) = some sv := by simp [List.lookup_cons]

section
variable {w : World} {A : Around} {g : Heap} {env : Env} {av : AV} {h : Heap} {σ : Sg} {μ : Mu} {s : Shared} {tk : Nat} {E : Value → Shared → Prop}

theorem st_local {n : Str} {v : Value} {sv : SV} {Q : Unit → Shared → Prop} (x : S w g env av h σ μ) (hv : VOk av h v sv) (hk : env.kindOf n = some .local)
    (k : ∀ h' tk', S w g env av h' ((n, sv) :: σ) μ → Heap.SameBut env.locals h h' → Q () (upd s h' tk')) : wpAny (model P0 w) A (storeName env n v) Q E (upd s h tk) := by
  obtain ⟨m, hm, hq⟩ := x.ns
  have hL := x.ownL
  refine wpAny_storeName_local hk hm (fun h' hn hs => k h' _ ?_ hs) (by rw [x.kind]; rfl)
  exact {
    base := x.base
    ext := fun b o e => (hs.2 b fun q => by rw [q, hL.2] at e; cases e).trans (x.ext _ _ e)
    kind := x.kind
    glob := x.glob
    blt := x.blt
    ns := by
      refine ⟨_, hn, fun y sv' q ky => ?_⟩
      by_cases hy : y = n
      · subst hy
        rw [lookup_cons_eq] at q; cases q
        exact ⟨v, by simp, hv.sameBut hL.1 hs⟩
      · rw [lookup_cons_ne hy] at q
        obtain ⟨v', a, b⟩ := hq y sv' q ky
        exact ⟨v', by simp [hy, a], b.sameBut hL.1 hs⟩
    cells := fun y sv' q ky => by
      have hy : y ≠ n := fun e => ky (e ▸ hk)
      rw [lookup_cons_ne hy] at q
      obtain ⟨k1, c, v', l, ic, b⟩ := x.cells y sv' q ky
      exact ⟨k1, c, v', l, ic.sameBut hs (x.ownC _ _ l).2.2.1, b.sameBut hL.1 hs⟩
    ownL := hL
    ownC := fun y c q => by
      obtain ⟨a, b, d, v', ic⟩ := x.ownC y c q
      exact ⟨a, b, d, v', ic.sameBut hs d⟩
    apart := x.apart
    dom := fun a q => by
      by_cases ha : a = env.locals
      · subst ha; obtain ⟨o, _, _, ho, _⟩ := hn; exact ⟨o, ho⟩
      · obtain ⟨o, ho⟩ := x.dom a q; exact ⟨o, (hs.2 a ha).trans ho⟩
    mu := fun a mo q => by
      obtain ⟨b, c, d, e, f⟩ := x.mu a mo q
      exact ⟨MO.holds_sameBut hL.1 hs e b, c, d, e, f⟩ }


theorem st_cell {n : Str} {v : Value} {sv : SV} {Q : Unit → Shared → Prop} {c : Addr} (x : S w g env av h σ μ) (hv : VOk av h v sv) (hk : env.kindOf n = some .cell) (hc : env.cells.lookup n = some c)
    (k : ∀ h' tk', S w g env av h' ((n, sv) :: σ) μ → Off av h h' → Q () (upd s h' tk')) : wpAny (model P0 w) A (storeName env n v) Q E (upd s h tk) := by
  obtain ⟨ca, cg, cL, v0, ic0⟩ := x.ownC n c hc
  refine wpAny_storeName_cell x.kind hk hc ic0 fun h' hn hs => k h' _ ?_ fun b o nb q => (hs.2 b fun e => nb (e ▸ ca)).trans q
  exact {
    base := x.base
    ext := fun b o e => (hs.2 b fun q => by rw [q, cg] at e; cases e).trans (x.ext _ _ e)
    kind := x.kind
    glob := x.glob
    blt := x.blt
    ns := by
      obtain ⟨m, hm, hq⟩ := x.ns
      refine ⟨m, hm.sameBut hs (Ne.symm cL), fun y sv' q ky => ?_⟩
      have hy : y ≠ n := fun e => by rw [e, hk] at ky; cases ky
      rw [lookup_cons_ne hy] at q
      obtain ⟨v', a, b⟩ := hq y sv' q ky
      exact ⟨v', a, b.sameBut ca hs⟩
    cells := fun y sv' q ky => by
      by_cases hy : y = n
      · subst hy
        rw [lookup_cons_eq] at q; cases q
        exact ⟨hk, c, v, hc, hn, hv.sameBut ca hs⟩
      · rw [lookup_cons_ne hy] at q
        obtain ⟨k1, c', v', l, ic, b⟩ := x.cells y sv' q ky
        exact ⟨k1, c', v', l, ic.sameBut hs (fun e => hy (x.apart _ _ _ (e ▸ l) hc)), b.sameBut ca hs⟩
    ownL := x.ownL
    ownC := fun y c' q => by
      obtain ⟨a, b, d, v', ic⟩ := x.ownC y c' q
      by_cases hy : c' = c
      · subst hy; exact ⟨a, b, d, _, hn⟩
      · exact ⟨a, b, d, v', ic.sameBut hs hy⟩
    apart := x.apart
    dom := fun a q => by
      by_cases ha : a = c
      · subst ha; obtain ⟨o, ho, _⟩ := hn; exact ⟨o, ho⟩
      · obtain ⟨o, ho⟩ := x.dom a q; exact ⟨o, (hs.2 a ha).trans ho⟩
    mu := fun a mo q => by
      obtain ⟨b, c1, d, e, f⟩ := x.mu a mo q
      exact ⟨MO.holds_sameBut ca hs (Ne.symm (f _ _ hc)) b, c1, d, e, f⟩ }

def Storable (env : Env) (n : Str) : Prop := env.kindOf n = some .local ∨ (env.kindOf n = some .cell ∧ (env.cells.lookup n).isSome = true)
theorem st_name {n : Str} {v : Value} {sv : SV} {Q : Unit → Shared → Prop} (x : S w g env av h σ μ) (hv : VOk av h v sv) (hk : Storable env n)
    (k : ∀ h' tk', S w g env av h' ((n, sv) :: σ) μ → Off av h h' → Q () (upd s h' tk')) : wpAny (model P0 w) A (storeName env n v) Q E (upd s h tk) := by
  rcases hk with hk | ⟨hk, hc⟩
  · exact st_local x hv hk fun h' tk' y hs => k h' tk' y fun b o nb q => (hs.2 b fun e => nb (e ▸ x.ownL.1)).trans q
  · obtain ⟨c, hc⟩ := Option.isSome_iff_exists.mp hc
    exact st_cell x hv hk hc k

/-- the content of a mutable list is exchanged -/
theorem S.putMu {l : Addr} {m0 m1 : MO} {h' : Heap} (x : S w g env av h σ μ) (hl : μ.lookup l = some m0) (hs : Heap.SameBut l h h') (hv : m1.holds av h' l)
    {μ' : Mu} (hμ : ∀ a mo, μ'.lookup a = some mo → (a = l ∧ mo = m1) ∨ (a ≠ l ∧ μ.lookup a = some mo)) : S w g env av h' σ μ' := by
  obtain ⟨_, al, gl, nl, cl⟩ := x.mu l _ hl
  have off : ∀ b o, ¬ av b → h.get? b = some o → ¬ av b ∧ h'.get? b = some o := fun b o nb q => ⟨nb, (hs.2 b fun e => nb (e ▸ al)).trans q⟩
  exact {
    base := x.base
    ext := fun b o e => (hs.2 b fun q => by rw [q, gl] at e; cases e).trans (x.ext _ _ e)
    kind := x.kind
    glob := x.glob
    blt := x.blt
    ns := by
      obtain ⟨m, hm, hq⟩ := x.ns
      exact ⟨m, hm.sameBut hs (Ne.symm nl), fun y sv' q ky => let ⟨v', a, b⟩ := hq y sv' q ky; ⟨v', a, b.sameBut al hs⟩⟩
    cells := fun y sv' q ky => by
      obtain ⟨k1, c', v', l', ic, b⟩ := x.cells y sv' q ky
      exact ⟨k1, c', v', l', ic.sameBut hs (cl _ _ l'), b.sameBut al hs⟩
    ownL := x.ownL
    ownC := fun y c' q => by
      obtain ⟨a, b, d, v', ic⟩ := x.ownC y c' q
      exact ⟨a, b, d, v', ic.sameBut hs (cl _ _ q)⟩
    apart := x.apart
    dom := fun a q => by
      by_cases ha : a = l
      · subst ha; exact MO.holds_some hv
      · obtain ⟨o, ho⟩ := x.dom a q; exact ⟨o, (hs.2 a ha).trans ho⟩
    mu := fun a mo q => by
      rcases hμ a mo q with ⟨rfl, rfl⟩ | ⟨ha, q⟩
      · exact ⟨hv, al, gl, nl, cl⟩
      · obtain ⟨b, c1, d, e, f⟩ := x.mu a mo q
        exact ⟨MO.holds_sameBut al hs ha b, c1, d, e, f⟩ }
theorem S.setMu {l : Addr} {ds ds' : List D} {h' : Heap} {vs' : List Value} {n' : Nat} (x : S w g env av h σ μ) (hl : μ.lookup l = some (.list ds)) (hs : Heap.SameBut l h h') (ho : h'.get? l = some (lstO vs' n')) (hv : Ats av h vs' ds')
    {μ' : Mu} (hμ : ∀ a mo, μ'.lookup a = some mo → (a = l ∧ mo = .list ds') ∨ (a ≠ l ∧ μ.lookup a = some mo)) : S w g env av h' σ μ' :=
  x.putMu (m1 := .list ds') hl hs ⟨vs', n', ho, hv.mono fun b o nb q => ⟨nb, (hs.2 b fun e => nb (e ▸ (x.mu l _ hl).2.1)).trans q⟩⟩ hμ

theorem ld_name {n : Str} {sv : SV} {Q : Value → Shared → Prop} (x : S w g env av h σ μ) (hl : σ.lookup n = some sv)
    (k : ∀ v, VOk av h v sv → Q v (upd s h tk)) : wpAny (model P0 w) A (loadName env n) Q E (upd s h tk) := by
  by_cases hk : env.kindOf n = some .local
  · obtain ⟨m, hm, hq⟩ := x.ns
    obtain ⟨v, hv, ok⟩ := hq n sv hl hk
    exact wpAny_loadName_local x.kind hk hm hv (k v ok)
  · obtain ⟨k1, c, v, l, ic, ok⟩ := x.cells n sv hl hk
    exact wpAny_loadName_cell x.kind k1 l ic (k v ok)
end

/-- a pure expression's worth -/
structure Ev (w : World) (A : Around) (env : Env) (σ : Sg) (μ : Mu) (e : Expr) (d : D) : Prop where
  run : ∀ (g : Heap) (av : AV) (s : Shared) (h : Heap) (tk : Nat) (Q : Value → Shared → Prop) (E : Value → Shared → Prop), S w g env av h σ μ →
    (∀ v h' tk', Ext h h' → At av h' v d → Q v (upd s h' tk')) → wpAny (model P0 w) A (eval e env) Q E (upd s h tk)

/-- reads as a datum now; the head of a list may be live -/
def AtT (av : AV) (h : Heap) (v : Value) (d : D) : Prop := At av h v d ∨ ∃ a vs ds n, v = .ref a ∧ d = .list ds ∧ h.get? a = some (lstO vs n) ∧ Ats av h vs ds
theorem At.t {av : AV} {h : Heap} {v : Value} {d : D} (x : At av h v d) : AtT av h v d := .inl x
theorem AtT.ext {av : AV} {h h' : Heap} (e : Ext h h') {v : Value} {d : D} (x : AtT av h v d) : AtT av h' v d := by
  rcases x with x | ⟨a, vs, ds, n, e1, e2, e3, e4⟩
  · exact .inl (x.ext e)
  · exact .inr ⟨a, vs, ds, n, e1, e2, e _ _ e3, e4.ext e⟩
theorem AtT.list {av : AV} {h : Heap} {v : Value} {ds : List D} (x : AtT av h v (.list ds)) : ∃ a vs n, v = .ref a ∧ h.get? a = some (lstO vs n) ∧ Ats av h vs ds := by
  rcases x with x | ⟨a, vs, ds', n, e1, e2, e3, e4⟩
  · cases x with | list hn ho hs => exact ⟨_, _, _, rfl, ho, hs⟩
  · cases e2; exact ⟨a, vs, n, e1, e3, e4⟩
theorem AtT.int {av : AV} {h : Heap} {v : Value} {i : Int} (x : AtT av h v (.int i)) : ∃ t, v = .int i t := by
  rcases x with x | ⟨a, vs, ds', n, e1, e2, e3, e4⟩
  · cases x; exact ⟨_, rfl⟩
  · cases e2
theorem AtT.str {av : AV} {h : Heap} {v : Value} {i : Str} (x : AtT av h v (.str i)) : ∃ t, v = .str i t := by
  rcases x with x | ⟨a, vs, ds', n, e1, e2, e3, e4⟩
  · cases x; exact ⟨_, rfl⟩
  · cases e2
theorem AtT.bool {av : AV} {h : Heap} {v : Value} {i : Bool} (x : AtT av h v (.bool i)) : v = .bool i := by
  rcases x with x | ⟨a, vs, ds', n, e1, e2, e3, e4⟩
  · cases x; rfl
  · cases e2
theorem AtT.none {av : AV} {h : Heap} {v : Value} (x : AtT av h v .none) : v = .none := by
  rcases x with x | ⟨a, vs, ds', n, e1, e2, e3, e4⟩
  · cases x; rfl
  · cases e2
theorem AtT.tuple {av : AV} {h : Heap} {v : Value} {ds : List D} (x : AtT av h v (.tuple ds)) : ∃ a vs n, v = .ref a ∧ ¬ av a ∧ h.get? a = some (tupO vs n) ∧ Ats av h vs ds := by
  rcases x with x | ⟨a, vs, ds', n, e1, e2, e3, e4⟩
  · cases x with | tuple hn ho hs => exact ⟨_, _, _, rfl, hn, ho, hs⟩
  · cases e2

/-- the same, for use at once -/
structure EvT (w : World) (A : Around) (env : Env) (σ : Sg) (μ : Mu) (e : Expr) (d : D) : Prop where
  run : ∀ (g : Heap) (av : AV) (s : Shared) (h : Heap) (tk : Nat) (Q : Value → Shared → Prop) (E : Value → Shared → Prop), S w g env av h σ μ →
    (∀ v h' tk', Ext h h' → AtT av h' v d → Q v (upd s h' tk')) → wpAny (model P0 w) A (eval e env) Q E (upd s h tk)
theorem Ev.t {w A env σ μ e d} (x : Ev w A env σ μ e d) : EvT w A env σ μ e d := ⟨fun g av s h tk Q E st k => x.run g av s h tk Q E st fun v h' tk' e a => k v h' tk' e a.t⟩

section
variable {w : World} {A : Around} {env : Env} {σ : Sg} {μ : Mu}

theorem ev_name {n : Str} {p : Pos} {d : D} (hl : σ.lookup n = some (.d d)) (hd : (n == ("__debug__" : Str)) = false := by decide) : Ev w A env σ μ (.Name n p) d :=
  ⟨fun g av s h tk Q E st k => wpAny_Name (ld_name st hl fun v hv => k v h tk (Ext.refl h) hv) hd⟩
theorem evt_mut {n : Str} {p : Pos} {a : Addr} {ds : List D} (hl : σ.lookup n = some (.m a)) (hm : μ.lookup a = some (.list ds)) (hd : (n == ("__debug__" : Str)) = false := by decide) : EvT w A env σ μ (.Name n p) (.list ds) :=
  ⟨fun g av s h tk Q E st k => wpAny_Name (ld_name st hl fun v hv => by
    obtain ⟨⟨vs, n, ho, hs⟩, _⟩ := st.mu a _ hm
    subst hv
    exact k _ h tk (Ext.refl h) (.inr ⟨a, vs, ds, n, rfl, rfl, ho, hs⟩)) hd⟩
theorem ev_int {i : Int} {k : Nat} {p : Pos} : Ev w A env σ μ (.Constant (.int i) k p) (.int i) := ⟨fun g av s h tk Q E st k => wpAny_Constant_int (k _ h (tk + 1) (Ext.refl h) (.int _ _))⟩
theorem ev_str {x : Str} {k : Nat} {p : Pos} : Ev w A env σ μ (.Constant (.str x) k p) (.str x) := ⟨fun g av s h tk Q E st k => wpAny_Constant_str (k _ h (tk + 1) (Ext.refl h) (.str _ _))⟩
theorem ev_none {k : Nat} {p : Pos} : Ev w A env σ μ (.Constant .none k p) .none := ⟨fun g av s h tk Q E st k => wpAny_Constant_none (k _ h tk (Ext.refl h) .none)⟩
theorem ev_bool {b : Bool} {k : Nat} {p : Pos} : Ev w A env σ μ (.Constant (.bool b) k p) (.bool b) := ⟨fun g av s h tk Q E st k => wpAny_Constant_bool (k _ h tk (Ext.refl h) (.bool _))⟩

/-- an operation upon data -/
structure OpD (w : World) (A : Around) (op : Operator) (a b d : D) : Prop where
  run : ∀ (av : AV) (s : Shared) (h : Heap) (tk : Nat) (u v : Value) (Q : Value → Shared → Prop) (E : Value → Shared → Prop), (∀ a, av a → ∃ o, h.get? a = some o) → AtT av h u a → AtT av h v b →
    (∀ r h' tk', Ext h h' → At av h' r d → Q r (upd s h' tk')) → wpAny (model P0 w) A (binaryOp op u v) Q E (upd s h tk)
theorem ev_bin {l r : Expr} {op : Operator} {p : Pos} {a b d : D} (hl : EvT w A env σ μ l a) (hr : EvT w A env σ μ r b) (ho : OpD w A op a b d) : Ev w A env σ μ (.BinOp l op r p) d :=
  ⟨fun g av s h tk Q E st k => wpAny_BinOp (hl.run g av s h tk _ E st fun u h1 tk1 e1 a1 => hr.run g av s h1 tk1 _ E (st.grow e1) fun v h2 tk2 e2 a2 =>
    ho.run av s h2 tk2 u v _ E (fun a q => (st.grow (e1.trans e2)).dom a q) (a1.ext e2) a2 fun r h3 tk3 e3 a3 => k r h3 tk3 ((e1.trans e2).trans e3) a3)⟩

theorem op_add {i j : Int} : OpD w A .Add (.int i) (.int j) (.int (i + j)) := ⟨fun av s h tk u v Q E dm x y k => by
  obtain ⟨t, rfl⟩ := x.int; obtain ⟨t', rfl⟩ := y.int
  exact add_int (k _ h (tk + 1) (Ext.refl h) (.int _ _))⟩
theorem op_sub {i j : Int} : OpD w A .Sub (.int i) (.int j) (.int (i - j)) := ⟨fun av s h tk u v Q E dm x y k => by
  obtain ⟨t, rfl⟩ := x.int; obtain ⟨t', rfl⟩ := y.int
  exact sub_int (k _ h (tk + 1) (Ext.refl h) (.int _ _))⟩
theorem op_mul {i j : Int} (hm : IntMulOk i j) : OpD w A .Mult (.int i) (.int j) (.int (i * j)) := ⟨fun av s h tk u v Q E dm x y k => by
  obtain ⟨t, rfl⟩ := x.int; obtain ⟨t', rfl⟩ := y.int
  exact mul_int (k _ h (tk + 1) (Ext.refl h) (.int _ _)) hm⟩
theorem op_mod {i j : Int} (hj : j ≠ 0) : OpD w A .Mod (.int i) (.int j) (.int (i.fmod j)) := ⟨fun av s h tk u v Q E dm x y k => by
  obtain ⟨t, rfl⟩ := x.int; obtain ⟨t', rfl⟩ := y.int
  exact mod_int' hj (k _ h (tk + 1) (Ext.refl h) (.int _ _))⟩
theorem op_div {i j : Int} (hj : j ≠ 0) (hp : Builtin.divisionGoesByPylong i j = false) : OpD w A .FloorDiv (.int i) (.int j) (.int (i.fdiv j)) := ⟨fun av s h tk u v Q E dm x y k => by
  obtain ⟨t, rfl⟩ := x.int; obtain ⟨t', rfl⟩ := y.int
  exact floordiv_int hj (k _ h (tk + 1) (Ext.refl h) (.int _ _)) (.inl hp)⟩
theorem op_cat {x y : Str} (hz : x.length + y.length ≤ sizeLine) : OpD w A .Add (.str x) (.str y) (.str (x ++ y)) := ⟨fun av s h tk u v Q E dm a b k => by
  obtain ⟨t, rfl⟩ := a.str; obtain ⟨t', rfl⟩ := b.str
  exact add_str (fun t' tk' => k _ h tk' (Ext.refl h) (.str _ _)) hz⟩
theorem dom_fresh {av : AV} {h : Heap} (dm : ∀ a, av a → ∃ o, h.get? a = some o) : ¬ av h.objs.size := fun q => let ⟨o, e⟩ := dm _ q; Nat.lt_irrefl _ (Heap.lt_size e)
theorem op_lists {xs ys : List D} (hz : xs.length + ys.length ≤ sizeLine) : OpD w A .Add (.list xs) (.list ys) (.list (xs ++ ys)) := ⟨fun av s h tk u v Q E dm a b k => by
  obtain ⟨a1, vs, n, rfl, h1, s1⟩ := a.list; obtain ⟨b1, us, m, rfl, h2, s2⟩ := b.list
  refine PySem.P.add_list (items := vs.toArray) (items2 := us.toArray) h1 h2 ?_ (by simp [s1.length, s2.length, hz])
  refine k _ (h.push _) tk (Ext.push _ _) (.list (vs := vs ++ us) (n := 0) (dom_fresh dm) ?_ ?_)
  · rw [show (upd s h tk).heap = h from rfl]
    simpa using Heap.get?_push_size h (o := { cls := .type "list", data := .seq (vs.toArray ++ us.toArray) }) rfl
  · exact (s1.append s2).ext (Ext.push _ _)⟩
end
end
section

/-! names of the top -/
theorem mg_none {K : Frag} {h : Heap} {mg : Str → Option Value} {n : Str} (X : K.In h) (G : h.Ns mainGlobals mg) (e : nsIn K mainGlobals n = some none) : mg n = none := by
  obtain ⟨o, es, ep, ho, hd, _, hf⟩ := G
  unfold nsIn at e
  split at e
  · rename_i c d es' n' sl q
    have := X _ _ q
    rw [ho] at this
    cases this
    cases hd
    split at e
    · cases e
    · rename_i he
      split at e
      · cases e
      · rw [← hf]
        unfold nsFind findBy
        rw [← Array.find?_toList, he]
        rfl
  · cases e

section
variable {w : World} {A : Around} {g : Heap} {env : Env} {av : AV} {h : Heap} {σ : Sg} {μ : Mu} {s : Shared} {tk : Nat} {E : Value → Shared → Prop}
def IsGlob (w : World) (n : Str) (v : Value) : Prop := nsIn (Mine.hd.heap_1 w.params) mainGlobals n = some (some v) ∨ (nsIn (Mine.hd.heap_1 w.params) mainGlobals n = some none ∧ n ≠ "__name__" ∧ bootBuiltins n = some v)
theorem ld_glob {n : Str} {p : Pos} {v : Value} {Q : Value → Shared → Prop} (x : S w g env av h σ μ) (hk : env.kindOf n = some .globalImplicit) (hv : IsGlob w n v) (k : Q v (upd s h tk)) (hd : (n == ("__debug__" : Str)) = false := by decide) :
    wpAny (model P0 w) A (eval (.Name n p) env) Q E (upd s h tk) := by
  have B := x.base.ext x.ext
  obtain ⟨mg, mb, a, b, c⟩ := B.top
  refine Name_function_global x.kind hk ?_ hd
  rcases hv with hv | ⟨h1, h2, h3⟩
  · exact loadGlobal_global (mg := mg) (by rw [x.glob]; exact a) (mg_of B.K a hv) k
  · exact loadGlobal_builtin (mg := mg) (mb := mb) (by rw [x.glob]; exact a) (mg_none B.K a h1) (by rw [x.blt]; exact b) ((c n h2).trans h3) k
end

/-! comparisons -/
structure CmpD (w : World) (A : Around) (op : CmpOp) (a b : D) (r : Bool) : Prop where
  run : ∀ (av : AV) (s : Shared) (h : Heap) (tk : Nat) (u v : Value) (Q : Value → Shared → Prop) (E : Value → Shared → Prop), (∀ a, av a → ∃ o, h.get? a = some o) → AtT av h u a → AtT av h v b →
    (∀ h' tk', Ext h h' → Q (.bool r) (upd s h' tk')) → wpAny (model P0 w) A (compareOp op u v) Q E (upd s h tk)
section
variable {w : World} {A : Around}
theorem cmp_lt {i j : Int} : CmpD w A .Lt (.int i) (.int j) (decide (i < j)) := ⟨fun av s h tk u v Q E dm x y k => by
  obtain ⟨t, rfl⟩ := x.int; obtain ⟨t', rfl⟩ := y.int; exact lt_int (k h tk (Ext.refl h))⟩
theorem cmp_le {i j : Int} : CmpD w A .LtE (.int i) (.int j) (decide (i ≤ j)) := ⟨fun av s h tk u v Q E dm x y k => by
  obtain ⟨t, rfl⟩ := x.int; obtain ⟨t', rfl⟩ := y.int; exact P.le_int (k h tk (Ext.refl h))⟩
theorem cmp_gt {i j : Int} : CmpD w A .Gt (.int i) (.int j) (decide (j < i)) := ⟨fun av s h tk u v Q E dm x y k => by
  obtain ⟨t, rfl⟩ := x.int; obtain ⟨t', rfl⟩ := y.int; exact P.gt_int (k h tk (Ext.refl h))⟩
theorem cmp_ge {i j : Int} : CmpD w A .GtE (.int i) (.int j) (decide (j ≤ i)) := ⟨fun av s h tk u v Q E dm x y k => by
  obtain ⟨t, rfl⟩ := x.int; obtain ⟨t', rfl⟩ := y.int; exact P.ge_int (k h tk (Ext.refl h))⟩
theorem cmp_eqI {i j : Int} : CmpD w A .Eq (.int i) (.int j) (i == j) := ⟨fun av s h tk u v Q E dm x y k => by
  obtain ⟨t, rfl⟩ := x.int; obtain ⟨t', rfl⟩ := y.int; exact eq_int (k h tk (Ext.refl h))⟩
theorem cmp_neI {i j : Int} : CmpD w A .NotEq (.int i) (.int j) (i != j) := ⟨fun av s h tk u v Q E dm x y k => by
  obtain ⟨t, rfl⟩ := x.int; obtain ⟨t', rfl⟩ := y.int; exact P.ne_int (k h tk (Ext.refl h))⟩
theorem cmp_eqS {i j : Str} : CmpD w A .Eq (.str i) (.str j) (i == j) := ⟨fun av s h tk u v Q E dm x y k => by
  obtain ⟨t, rfl⟩ := x.str; obtain ⟨t', rfl⟩ := y.str; exact eq_str (k h tk (Ext.refl h))⟩
theorem cmp_neS {i j : Str} : CmpD w A .NotEq (.str i) (.str j) (!(i == j)) := ⟨fun av s h tk u v Q E dm x y k => by
  obtain ⟨t, rfl⟩ := x.str; obtain ⟨t', rfl⟩ := y.str
  exact SeqAt.RcNeAt.str_str i t j t' P0 w E Q (k h tk (Ext.refl h))⟩


mutual
def D.py : D → PyData
  | .none => .none
  | .bool b => .bool b
  | .int i => .int i
  | .str s => .str s
  | .list ds => .list (D.pys ds)
  | .tuple ds => .tuple (D.pys ds)
  | .inst _ _ => .none
  | .ptr _ => .none
  | .leaf _ => .none
  | .ty _ => .none
def D.pys : List D → List PyData
  | [] => []
  | d :: ds => d.py :: D.pys ds
end
mutual
def D.plain : D → Bool
  | .inst _ _ => false
  | .ptr _ => false
  | .leaf _ => false
  | .ty _ => false
  | .list ds => D.plains ds
  | .tuple ds => D.plains ds
  | _ => true
def D.plains : List D → Bool
  | [] => true
  | d :: ds => d.plain && D.plains ds
end
mutual
theorem At.reads {av : AV} {h : Heap} : ∀ {v : Value} {d : D}, At av h v d → d.plain = true → ∃ as, Reads h v d.py as
  | _, _, .none, _ => ⟨_, .none⟩
  | _, _, .bool b, _ => ⟨_, .bool b⟩
  | _, _, .int i t, _ => ⟨_, .int i t⟩
  | _, _, .str s t, _ => ⟨_, .str s t⟩
  | _, _, .list (vs := vs) (n := n) hn ho hs, p => let ⟨as, r⟩ := Ats.reads hs (by simpa [D.plain] using p); ⟨_, .list ho rfl rfl (by simpa using r)⟩
  | _, _, .tuple hn ho hs, p => let ⟨as, r⟩ := Ats.reads hs (by simpa [D.plain] using p); ⟨_, .tuple ho rfl rfl (by simpa using r)⟩
  | _, _, .inst _ _ _ _ _, p => by simp [D.plain] at p
  | _, _, .ptr _, p => by simp [D.plain] at p
  | _, _, .ty _, p => by simp [D.plain] at p
  | _, _, .leaf _ _ _, p => by simp [D.plain] at p
theorem Ats.reads {av : AV} {h : Heap} : ∀ {vs : List Value} {ds : List D}, Ats av h vs ds → D.plains ds = true → ∃ as, ReadsAll h vs (D.pys ds) as
  | _, _, .nil, _ => ⟨_, .nil⟩
  | _, _, .cons hv hs, p => by
    simp only [D.plains, Bool.and_eq_true] at p
    obtain ⟨as, r⟩ := hv.reads p.1
    obtain ⟨bs, q⟩ := Ats.reads hs p.2
    exact ⟨_, .cons r q⟩
end
theorem AtT.reads {av : AV} {h : Heap} {v : Value} {d : D} (x : AtT av h v d) (p : d.plain = true) : ∃ as, Reads h v d.py as := by
  rcases x with x | ⟨a, vs, ds, n, rfl, rfl, ho, hs⟩
  · exact x.reads p
  · obtain ⟨as, r⟩ := Ats.reads hs (by simpa [D.plain] using p)
    exact ⟨_, .list ho rfl rfl (by simpa using r)⟩
theorem cmp_eqD {a b : D} (hu : A.units + 64 < cLine) (pa : a.plain = true) (pb : b.plain = true) (sa : SeqAt.shaped a.py = true) (sb : SeqAt.shaped b.py = true) : CmpD w A .Eq a b (a.py.eqv b.py) := ⟨fun av s h tk u v Q E dm x y k => by
  obtain ⟨as, r⟩ := x.reads pa; obtain ⟨bs, q⟩ := y.reads pb
  exact eq_dataH (s := upd s h tk) r q sa sb hu (k h tk (Ext.refl h))⟩
theorem cmp_neD {a b : D} (hu : A.units + 64 < cLine) (pa : a.plain = true) (pb : b.plain = true) (sa : SeqAt.shaped a.py = true) (sb : SeqAt.shaped b.py = true) : CmpD w A .NotEq a b (!a.py.eqv b.py) := ⟨fun av s h tk u v Q E dm x y k => by
  obtain ⟨as, r⟩ := x.reads pa; obtain ⟨bs, q⟩ := y.reads pb
  exact ne_dataH (s := upd s h tk) r q sa sb hu (k h tk (Ext.refl h))⟩

theorem cmp_isNone {a : D} (r : Bool) (hr : (match a with | .none => true | _ => false) = r) : CmpD w A .Is a .none r := ⟨fun av s h tk u v Q E dm x y k => by
  have := y.none; subst this
  refine is_none (M := model P0 w) ?_
  have e : (u == Value.none) = r := by
    rcases x with x | ⟨b, vs, ds, n, rfl, rfl, _, _⟩
    · cases x <;> subst hr <;> rfl
    · subst hr; rfl
  rw [e]; exact k h tk (Ext.refl h)⟩
theorem isSame_bools (a b : Bool) : isSame (.bool a) (.bool b) = pure (a == b) := by cases a <;> cases b <;> rfl
theorem cmp_isB {a b : Bool} : CmpD w A .Is (.bool a) (.bool b) (a == b) := ⟨fun av s h tk u v Q E dm x y k => by
  have := y.bool; subst this; have := x.bool; subst this
  show wpAny _ A (do return .bool (← isSame (.bool a) (.bool b))) Q E _
  rw [isSame_bools]; exact wpAny_bind (wpAny_pure (wpAny_pure (k h tk (Ext.refl h))))⟩
theorem cmp_isNotB {a b : Bool} : CmpD w A .IsNot (.bool a) (.bool b) (!(a == b)) := ⟨fun av s h tk u v Q E dm x y k => by
  have := y.bool; subst this; have := x.bool; subst this
  show wpAny _ A (do return .bool (!(← isSame (.bool a) (.bool b)))) Q E _
  rw [isSame_bools]; exact wpAny_bind (wpAny_pure (wpAny_pure (k h tk (Ext.refl h))))⟩
end

section
variable {w : World} {A : Around} {env : Env} {σ : Sg} {μ : Mu}
theorem ev_cmp {l r : Expr} {op : CmpOp} {p : Pos} {a b : D} {c : Bool} (hl : EvT w A env σ μ l a) (hr : EvT w A env σ μ r b) (ho : CmpD w A op a b c) (hm : behindInMarks op r = false := by with_unfolding_all rfl) : Ev w A env σ μ (.Compare l [op] [r] p) (.bool c) :=
  ⟨fun g av s h tk Q E st k => wpAny_Compare1 (hl.run g av s h tk _ E st fun u h1 tk1 e1 a1 => hr.run g av s h1 tk1 _ E (st.grow e1) fun v h2 tk2 e2 a2 =>
    ho.run av s h2 tk2 u v _ E (fun a q => (st.grow (e1.trans e2)).dom a q) (a1.ext e2) a2 fun h3 tk3 e3 => k _ h3 tk3 ((e1.trans e2).trans e3) (.bool _)) hm⟩

/-- a test's worth -/
structure Tr (w : World) (A : Around) (env : Env) (σ : Sg) (μ : Mu) (e : Expr) (b : Bool) : Prop where
  run : ∀ (g : Heap) (av : AV) (s : Shared) (h : Heap) (tk : Nat) (Q : Bool → Shared → Prop) (E : Value → Shared → Prop), S w g env av h σ μ →
    (∀ h' tk', Ext h h' → Q b (upd s h' tk')) → wpAny (model P0 w) A (isTrue e env (eval e env)) Q E (upd s h tk)
theorem tr_cmp {l r : Expr} {op : CmpOp} {p : Pos} {a b : D} {c : Bool} (hl : EvT w A env σ μ l a) (hr : EvT w A env σ μ r b) (ho : CmpD w A op a b c) (hm : behindInMarks op r = false := by with_unfolding_all rfl) : Tr w A env σ μ (.Compare l [op] [r] p) c :=
  ⟨fun g av s h tk Q E st k => wpAny_isTrue_Compare1 (hl.run g av s h tk _ E st fun u h1 tk1 e1 a1 => hr.run g av s h1 tk1 _ E (st.grow e1) fun v h2 tk2 e2 a2 =>
    ho.run av s h2 tk2 u v _ E (fun a q => (st.grow (e1.trans e2)).dom a q) (a1.ext e2) a2 fun h3 tk3 e3 => wpAny_truthy_bool (k h3 tk3 ((e1.trans e2).trans e3))) hm⟩
theorem tr_not {x : Expr} {p : Pos} {b : Bool} (hx : Tr w A env σ μ x b) : Tr w A env σ μ (.UnaryOp .Not x p) (!b) :=
  ⟨fun g av s h tk Q E st k => wpAny_isTrue_Not (hx.run g av s h tk _ E st fun h1 tk1 e1 => k h1 tk1 e1)⟩

/-- truth of a datum -/
structure TyD (w : World) (A : Around) (d : D) (b : Bool) : Prop where
  run : ∀ (av : AV) (s : Shared) (h : Heap) (tk : Nat) (v : Value) (Q : Bool → Shared → Prop) (E : Value → Shared → Prop), AtT av h v d →
    (∀ h' tk', Ext h h' → Q b (upd s h' tk')) → wpAny (model P0 w) A (truthy v) Q E (upd s h tk)
theorem ty_bool {b : Bool} : TyD w A (.bool b) b := ⟨fun av s h tk v Q E x k => by
  have := x.bool; subst this; exact wpAny_truthy_bool (k h tk (Ext.refl h))⟩
theorem ty_none : TyD w A .none false := ⟨fun av s h tk v Q E x k => by
  have := x.none; subst this; exact fun _ _ _ => k h tk (Ext.refl h)⟩
theorem ty_list {ds : List D} (hz : ds.length ≤ sizeLine) : TyD w A (.list ds) (!ds.isEmpty) := ⟨fun av s h tk v Q E x k => by
  obtain ⟨a, vs, n, rfl, ho, hs⟩ := x.list
  have hl : h.IsList a vs.toArray := ⟨_, ho, rfl, n, rfl⟩
  have e := hs.length
  refine wpAny_truthy_list (s := upd s h tk) hl (by rw [sizeLine_eq] at hz; simp; omega) ?_
  have : (!vs.toArray.isEmpty) = !ds.isEmpty := by cases vs <;> cases ds <;> simp_all
  rw [this]; exact k h _ (Ext.refl h)⟩
theorem tr_val {e : Expr} {d : D} {b : Bool} (hx : EvT w A env σ μ e d) (ht : TyD w A d b) (he : ∀ env whole, isTrue e env whole = (do let v ← whole; standAt e.pos; holding [v] (truthy v)) := by intros; rfl) : Tr w A env σ μ e b :=
  ⟨fun g av s h tk Q E st k => wpAny_isTrue_value (hx.run g av s h tk _ E st fun v h1 tk1 e1 a1 => ht.run av s h1 tk1 v _ E a1 fun h2 tk2 e2 => k h2 tk2 (e1.trans e2)) (he _ _)⟩

/-- tests joined -/
structure TrAll (w : World) (A : Around) (env : Env) (σ : Sg) (μ : Mu) (op : BoolOp) (es : List Expr) (b : Bool) : Prop where
  run : ∀ (g : Heap) (av : AV) (s : Shared) (h : Heap) (tk : Nat) (Q : Bool → Shared → Prop) (E : Value → Shared → Prop), S w g env av h σ μ →
    (∀ h' tk', Ext h h' → Q b (upd s h' tk')) → wpAny (model P0 w) A (allTrue op es env) Q E (upd s h tk)
theorem and_nil : TrAll w A env σ μ .And [] true := ⟨fun g av s h tk Q E st k => wpAny_allTrue_And_nil (k h tk (Ext.refl h))⟩
theorem or_nil : TrAll w A env σ μ .Or [] false := ⟨fun g av s h tk Q E st k => wpAny_allTrue_Or_nil (k h tk (Ext.refl h))⟩
theorem and_cons {x : Expr} {r : List Expr} {a b : Bool} (hx : Tr w A env σ μ x a) (hr : a = true → TrAll w A env σ μ .And r b) : TrAll w A env σ μ .And (x :: r) (a && b) := ⟨fun g av s h tk Q E st k =>
  wpAny_allTrue_And_cons (hx.run g av s h tk _ E st fun h1 tk1 e1 => by
    cases a with
    | false => exact k h1 tk1 e1
    | true => exact (hr rfl).run g av s h1 tk1 _ E (st.grow e1) fun h2 tk2 e2 => k h2 tk2 (e1.trans e2))⟩
theorem or_cons {x : Expr} {r : List Expr} {a b : Bool} (hx : Tr w A env σ μ x a) (hr : a = false → TrAll w A env σ μ .Or r b) : TrAll w A env σ μ .Or (x :: r) (a || b) := ⟨fun g av s h tk Q E st k =>
  wpAny_allTrue_Or_cons (hx.run g av s h tk _ E st fun h1 tk1 e1 => by
    cases a with
    | true => exact k h1 tk1 e1
    | false => exact (hr rfl).run g av s h1 tk1 _ E (st.grow e1) fun h2 tk2 e2 => k h2 tk2 (e1.trans e2))⟩
theorem tr_bool {op : BoolOp} {es : List Expr} {p : Pos} {b : Bool} (hx : TrAll w A env σ μ op es b) : Tr w A env σ μ (.BoolOp op es p) b := ⟨fun g av s h tk Q E st k =>
  wpAny_isTrue_BoolOp (hx.run g av s h tk _ E st k)⟩
theorem ev_ifexp {t a b : Expr} {p : Pos} {c : Bool} {d : D} (ht : Tr w A env σ μ t c) (ha : c = true → Ev w A env σ μ a d) (hb : c = false → Ev w A env σ μ b d) : Ev w A env σ μ (.IfExp t a b p) d := ⟨fun g av s h tk Q E st k =>
  wpAny_IfExp (ht.run g av s h tk _ E st fun h1 tk1 e1 => by
    cases c with
    | true => exact (ha rfl).run g av s h1 tk1 _ E (st.grow e1) fun v h2 tk2 e2 a2 => k v h2 tk2 (e1.trans e2) a2
    | false => exact (hb rfl).run g av s h1 tk1 _ E (st.grow e1) fun v h2 tk2 e2 a2 => k v h2 tk2 (e1.trans e2) a2)⟩
theorem ev_not {x : Expr} {p : Pos} {d : D} {b : Bool} (hx : EvT w A env σ μ x d) (ht : TyD w A d b) : Ev w A env σ μ (.UnaryOp .Not x p) (.bool (!b)) := ⟨fun g av s h tk Q E st k =>
  wpAny_UnaryOp (hx.run g av s h tk _ E st fun v h1 tk1 e1 a1 => not_value (ht.run av s h1 tk1 v _ E a1 fun h2 tk2 e2 => k _ h2 tk2 (e1.trans e2) (.bool _)))⟩
/-- «a and b» as a value, of two bools -/
theorem ev_and2 {x y : Expr} {p : Pos} {a b : Bool} (hx : Ev w A env σ μ x (.bool a)) (hy : a = true → Ev w A env σ μ y (.bool b)) : Ev w A env σ μ (.BoolOp .And [x, y] p) (.bool (a && b)) := ⟨fun g av s h tk Q E st k =>
  wpAny_And2 (hx.run g av s h tk _ E st fun v h1 tk1 e1 a1 => by
    cases a1
    refine wpAny_truthy_bool ?_
    cases a with
    | false => exact k _ h1 tk1 e1 (.bool _)
    | true => exact (hy rfl).run g av s h1 tk1 _ E (st.grow e1) fun v h2 tk2 e2 a2 => k v h2 tk2 (e1.trans e2) a2)⟩
end
end
section

inductive AtTs (av : AV) (h : Heap) : List Value → List D → Prop
  | nil : AtTs av h [] []
  | cons {v : Value} {d : D} {vs : List Value} {ds : List D} (hv : AtT av h v d) (hs : AtTs av h vs ds) : AtTs av h (v :: vs) (d :: ds)
theorem AtTs.ext {av : AV} {h h' : Heap} (e : Ext h h') : ∀ {vs : List Value} {ds : List D}, AtTs av h vs ds → AtTs av h' vs ds
  | _, _, .nil => .nil
  | _, _, .cons hv hs => .cons (hv.ext e) (hs.ext e)
theorem Ats.t {av : AV} {h : Heap} : ∀ {vs : List Value} {ds : List D}, Ats av h vs ds → AtTs av h vs ds
  | _, _, .nil => .nil
  | _, _, .cons hv hs => .cons hv.t hs.t
theorem AtTs.one {av : AV} {h : Heap} {vs : List Value} {d : D} (x : AtTs av h vs [d]) : ∃ v, vs = [v] ∧ AtT av h v d := by
  cases x with | cons hv hs => cases hs; exact ⟨_, rfl, hv⟩
theorem AtTs.two {av : AV} {h : Heap} {vs : List Value} {d e : D} (x : AtTs av h vs [d, e]) : ∃ v u, vs = [v, u] ∧ AtT av h v d ∧ AtT av h u e := by
  cases x with | cons hv hs => cases hs with | cons hu hs => cases hs; exact ⟨_, _, rfl, hv, hu⟩

section
variable {w : World} {A : Around} {env : Env} {σ : Sg} {μ : Mu}

/-- arguments for use at once | to keep -/
structure ArgsT (w : World) (A : Around) (env : Env) (σ : Sg) (μ : Mu) (es : List Expr) (ds : List D) : Prop where
  run : ∀ (g : Heap) (av : AV) (s : Shared) (h : Heap) (tk : Nat) (pos : Pos) (Q : List Value → Shared → Prop) (E : Value → Shared → Prop), S w g env av h σ μ →
    (∀ vs h' tk', Ext h h' → AtTs av h' vs ds → Q vs (upd s h' tk')) → wpAny (model P0 w) A (spliced (backTo pos (starEach es env))) Q E (upd s h tk)
structure Args (w : World) (A : Around) (env : Env) (σ : Sg) (μ : Mu) (es : List Expr) (ds : List D) : Prop where
  run : ∀ (g : Heap) (av : AV) (s : Shared) (h : Heap) (tk : Nat) (pos : Pos) (Q : List Value → Shared → Prop) (E : Value → Shared → Prop), S w g env av h σ μ →
    (∀ vs h' tk', Ext h h' → Ats av h' vs ds → Q vs (upd s h' tk')) → wpAny (model P0 w) A (spliced (backTo pos (starEach es env))) Q E (upd s h tk)
theorem argsT_nil : ArgsT w A env σ μ [] [] := ⟨fun g av s h tk pos Q E st k => wpAny_items_nil (k [] h tk (Ext.refl h) .nil)⟩
theorem args_nil' : Args w A env σ μ [] [] := ⟨fun g av s h tk pos Q E st k => wpAny_items_nil (k [] h tk (Ext.refl h) .nil)⟩
theorem argsT_cons {e : Expr} {es : List Expr} {d : D} {ds : List D} (he : EvT w A env σ μ e d) (hs : ArgsT w A env σ μ es ds) (hx : ∀ env, starEach (e :: es) env = (false, eval e env) :: starEach es env := by intros; rfl) : ArgsT w A env σ μ (e :: es) (d :: ds) :=
  ⟨fun g av s h tk pos Q E st k => wpAny_items_cons (he.run g av s h tk _ E st fun v h1 tk1 e1 a1 => hs.run g av s h1 tk1 pos _ E (st.grow e1) fun vs h2 tk2 e2 a2 => k _ h2 tk2 (e1.trans e2) (.cons (a1.ext e2) a2)) (hx env)⟩
theorem args_cons' {e : Expr} {es : List Expr} {d : D} {ds : List D} (he : Ev w A env σ μ e d) (hs : Args w A env σ μ es ds) (hx : ∀ env, starEach (e :: es) env = (false, eval e env) :: starEach es env := by intros; rfl) : Args w A env σ μ (e :: es) (d :: ds) :=
  ⟨fun g av s h tk pos Q E st k => wpAny_items_cons (he.run g av s h tk _ E st fun v h1 tk1 e1 a1 => hs.run g av s h1 tk1 pos _ E (st.grow e1) fun vs h2 tk2 e2 a2 => k _ h2 tk2 (e1.trans e2) (.cons (a1.ext e2) a2)) (hx env)⟩

/-- a call upon data -/
structure CallD (w : World) (A : Around) (f : Value) (ds : List D) (d : D) : Prop where
  run : ∀ (av : AV) (s : Shared) (h : Heap) (tk : Nat) (vs : List Value) (Q : Value → Shared → Prop) (E : Value → Shared → Prop), GB w h → (∀ a, av a → ∃ o, h.get? a = some o) → AtTs av h vs ds →
    (∀ r h' tk', Ext h h' → At av h' r d → Q r (upd s h' tk')) → wpAny (model P0 w) A (call f vs) Q E (upd s h tk)
/-- a def of the text upon data -/
structure Fn (w : World) (f : Addr) (n : Nat) (ds : List D) (d : D) : Prop where
  run : ∀ (A : Around) (av : AV) (s : Shared) (h : Heap) (tk : Nat) (vs : List Value) (Q : Value → Shared → Prop) (E : Value → Shared → Prop), AOk A n → GB w h → (∀ a, av a → ∃ o, h.get? a = some o) → Ats av h vs ds →
    (∀ r h' tk', Ext h h' → At av h' r d → Q r (upd s h' tk')) → wpAny (model P0 w) A (call (.ref f) vs) Q E (upd s h tk)

theorem keeps_machine {M : Model} {f : Value} (hf : keeperOf f = pure .machine) (h : Heap) (_ : True) : ∃ k, (k = Keeper.frame ∨ k = Keeper.machine ∨ k = Keeper.boundFrame) ∧ Looks M h (keeperOf f) k :=
  ⟨_, .inr (.inl rfl), Looks.of_pure hf⟩

theorem ev_callB {n : Str} {p pos : Pos} {e : Expr} {es : List Expr} {f : Value} {ds : List D} {d : D} (hk : env.kindOf n = some .globalImplicit) (hv : IsGlob w n f) (ha : ArgsT w A env σ μ (e :: es) ds) (hc : CallD w A f ds d)
    (hf : keeperOf f = pure .machine := by rfl) (hd : (n == ("__debug__" : Str)) = false := by decide)
    (hx : ∀ env, starEach (e :: es) env = (false, eval e env) :: starEach es env := by intros; rfl) (hp : ∀ env pos, (backTo pos (starEach es env)).any (·.1) = false := by intros; rfl)
    (hq : ∀ env, eval (.Call (.Name n p) (e :: es) [] pos) env = (do callWith pos (← eval (.Name n p) env) [] (backTo pos (starEach (e :: es) env)) (backToKw pos (keywordEach [] env))) := by intros; rfl) :
    Ev w A env σ μ (.Call (.Name n p) (e :: es) [] pos) d := ⟨fun g av s h tk Q E st k => by
  refine Call_ (ld_glob st hk hv ?_ hd) (hq env)
  rw [hx]
  refine callWith_of (P := fun _ => True) (by show (((false || (backTo pos (starEach es env)).any (·.1)) || false)) = false; rw [hp]; rfl) (keeps_machine hf) (evalArgs_plain ?_)
  have := ha.run g av s h tk pos (fun vs s₁ => True ∧ wpAny (model P0 w) A (call f ([] ++ vs) []) Q E s₁) E st fun vs h1 tk1 e1 a1 => ⟨trivial, hc.run av s h1 tk1 vs Q E (st.base.ext (st.ext.trans e1)) (st.grow e1).dom a1 fun r h2 tk2 e2 a2 => k r h2 tk2 (e1.trans e2) a2⟩
  rw [hx] at this
  exact this⟩

theorem ev_callF {n : Str} {p pos : Pos} {e : Expr} {es : List Expr} {f : Addr} {ds : List D} {d : D} {m : Nat} (hA : AOk A m) (hk : env.kindOf n = some .globalImplicit) (hv : IsGlob w n (.ref f)) (ha : Args w A env σ μ (e :: es) ds) (hc : Fn w f m ds d)
    (hf : keepIn (Mine.hd.heap_1 w.params) (.ref f) = true := by rfl) (hd : (n == ("__debug__" : Str)) = false := by decide)
    (hx : ∀ env, starEach (e :: es) env = (false, eval e env) :: starEach es env := by intros; rfl) (hp : ∀ env pos, (backTo pos (starEach es env)).any (·.1) = false := by intros; rfl)
    (hq : ∀ env, eval (.Call (.Name n p) (e :: es) [] pos) env = (do callWith pos (← eval (.Name n p) env) [] (backTo pos (starEach (e :: es) env)) (backToKw pos (keywordEach [] env))) := by intros; rfl) :
    Ev w A env σ μ (.Call (.Name n p) (e :: es) [] pos) d := ⟨fun g av s h tk Q E st k => by
  refine Call_ (ld_glob st hk hv ?_ hd) (hq env)
  rw [hx]
  refine callWith_of (P := fun h => (Mine.hd.heap_1 w.params).In h) (by show (((false || (backTo pos (starEach es env)).any (·.1)) || false)) = false; rw [hp]; rfl) (keeps_K hf) (evalArgs_plain ?_)
  have := ha.run g av s h tk pos (fun vs s₁ => (Mine.hd.heap_1 w.params).In s₁.heap ∧ wpAny (model P0 w) A (call (.ref f) ([] ++ vs) []) Q E s₁) E st fun vs h1 tk1 e1 a1 => ⟨(st.base.ext (st.ext.trans e1)).K, hc.run A av s h1 tk1 vs Q E hA (st.base.ext (st.ext.trans e1)) (st.grow e1).dom a1 fun r h2 tk2 e2 a2 => k r h2 tk2 (e1.trans e2) a2⟩
  rw [hx] at this
  exact this⟩

/-- a method call, its receiver no call of super -/
theorem meth_eq {o : Expr} {name : Str} {apos pos : Pos} {args : List Expr} {env : Env} (hb : attributeBase o name env (eval o env) = eval o env) (hl : (apos.endLine == pos.line) = true)
    (hs : (backTo pos (starEach args env)).all (fun x => !x.1) = true) (hn : args.length < 30) : ∃ pl : Sem Bool, eval (.Call (.Attribute o name apos) args [] pos) env = (do
      let ov ← eval o env
      standAt apos.atName
      let (f, first) ← holding [ov] (getMethod ov name pl)
      callWith pos f first (backTo pos (starEach args env)) (backToKw pos (keywordEach [] env))) := by
  refine ⟨do return (← importBound o env).getD true, ?_⟩
  rw [arm_eval_Call, hb]
  congr 1; funext ov; congr 1; funext _
  have hform : methodCallForm (args.length + ([] : List Keyword).length) (backTo pos (starEach args env)) (backToKw pos (keywordEach [] env)) = true := by
    unfold methodCallForm
    rw [hs, Bool.true_and]
    show (true && decide (args.length + 0 + 0 < 30)) = true
    simp; omega
  have hpos : methodCallPos true o env apos pos = pure pos := by unfold methodCallPos; simp [hl]
  unfold methodCall
  rw [hform, hpos]
  rfl

/-- a method of a datum -/
structure GetM (w : World) (A : Around) (d : D) (name : Str) (f : Value) : Prop where
  run : ∀ (av : AV) (s : Shared) (h : Heap) (tk : Nat) (v : Value) (pl : Sem Bool) (Q : Value × List Value → Shared → Prop) (E : Value → Shared → Prop), GB w h → AtT av h v d → Q (f, [v]) (upd s h tk) → wpAny (model P0 w) A (getMethod v name pl) Q E (upd s h tk)

theorem ev_methB {o : Expr} {name : Str} {apos pos : Pos} {e : Expr} {es : List Expr} {f : Value} {a : D} {ds : List D} {d : D} (ho : EvT w A env σ μ o a) (hg : GetM w A a name f) (ha : ArgsT w A env σ μ (e :: es) ds) (hc : CallD w A f (a :: ds) d)
    (hf : keeperOf f = pure .machine := by rfl)
    (hx : ∀ env, starEach (e :: es) env = (false, eval e env) :: starEach es env := by intros; rfl) (hp : ∀ env pos, (backTo pos (starEach es env)).any (·.1) = false := by intros; rfl)
    (hb : ∀ env, attributeBase o name env (eval o env) = eval o env := by intros; rfl) (hl : (apos.endLine == pos.line) = true := by decide) (hn : (e :: es).length < 30 := by decide) :
    Ev w A env σ μ (.Call (.Attribute o name apos) (e :: es) [] pos) d := ⟨fun g av s h tk Q E st k => by
  obtain ⟨pl, he⟩ := meth_eq (name := name) (apos := apos) (pos := pos) (args := e :: es) (hb env) hl (by rw [hx]; show (!false && (backTo pos (starEach es env)).all (fun x => !x.1)) = true; rw [Bool.not_false, Bool.true_and, List.all_eq_true]; intro x m; have := List.any_eq_false.mp (hp env pos) x m; simpa using this) hn
  refine methodCall_KW (kws := []) (ho.run g av s h tk _ E st fun v h1 tk1 e1 a1 => hg.run av s h1 tk1 v pl _ E (st.base.ext (st.ext.trans e1)) a1 ?_) he
  rw [hx]
  have st1 := st.grow e1
  refine callWith_of (P := fun _ => True) (by show (((false || (backTo pos (starEach es env)).any (·.1)) || false)) = false; rw [hp]; rfl) (keeps_machine hf) (evalArgs_plain ?_)
  have := ha.run g av s h1 tk1 pos (fun vs s₁ => True ∧ wpAny (model P0 w) A (call f ([v] ++ vs) []) Q E s₁) E st1 fun vs h2 tk2 e2 a2 => ⟨trivial, hc.run av s h2 tk2 (v :: vs) Q E (st1.base.ext (st1.ext.trans e2)) (st1.grow e2).dom (.cons (a1.ext e2) a2) fun r h3 tk3 e3 a3 => k r h3 tk3 ((e1.trans e2).trans e3) a3⟩
  rw [hx] at this
  exact this⟩

theorem ev_methF {o : Expr} {name : Str} {apos pos : Pos} {e : Expr} {es : List Expr} {f : Addr} {a : D} {ds : List D} {d : D} {m : Nat} (hA : AOk A m) (ho : Ev w A env σ μ o a) (hg : GetM w A a name (.ref f)) (ha : Args w A env σ μ (e :: es) ds) (hc : Fn w f m (a :: ds) d)
    (hf : keepIn (Mine.hd.heap_1 w.params) (.ref f) = true := by rfl)
    (hx : ∀ env, starEach (e :: es) env = (false, eval e env) :: starEach es env := by intros; rfl) (hp : ∀ env pos, (backTo pos (starEach es env)).any (·.1) = false := by intros; rfl)
    (hb : ∀ env, attributeBase o name env (eval o env) = eval o env := by intros; rfl) (hl : (apos.endLine == pos.line) = true := by decide) (hn : (e :: es).length < 30 := by decide) :
    Ev w A env σ μ (.Call (.Attribute o name apos) (e :: es) [] pos) d := ⟨fun g av s h tk Q E st k => by
  obtain ⟨pl, he⟩ := meth_eq (name := name) (apos := apos) (pos := pos) (args := e :: es) (hb env) hl (by rw [hx]; show (!false && (backTo pos (starEach es env)).all (fun x => !x.1)) = true; rw [Bool.not_false, Bool.true_and, List.all_eq_true]; intro x m; have := List.any_eq_false.mp (hp env pos) x m; simpa using this) hn
  refine methodCall_KW (kws := []) (ho.run g av s h tk _ E st fun v h1 tk1 e1 a1 => hg.run av s h1 tk1 v pl _ E (st.base.ext (st.ext.trans e1)) a1.t ?_) he
  rw [hx]
  have st1 := st.grow e1
  refine callWith_of (P := fun h => (Mine.hd.heap_1 w.params).In h) (by show (((false || (backTo pos (starEach es env)).any (·.1)) || false)) = false; rw [hp]; rfl) (keeps_K hf) (evalArgs_plain ?_)
  have := ha.run g av s h1 tk1 pos (fun vs s₁ => (Mine.hd.heap_1 w.params).In s₁.heap ∧ wpAny (model P0 w) A (call (.ref f) ([v] ++ vs) []) Q E s₁) E st1 fun vs h2 tk2 e2 a2 => ⟨(st1.base.ext (st1.ext.trans e2)).K, hc.run A av s h2 tk2 (v :: vs) Q E hA (st1.base.ext (st1.ext.trans e2)) (st1.grow e2).dom (.cons (a1.ext e2) a2) fun r h3 tk3 e3 a3 => k r h3 tk3 ((e1.trans e2).trans e3) a3⟩
  rw [hx] at this
  exact this⟩
theorem ev_methF0 {o : Expr} {name : Str} {apos pos : Pos} {f : Addr} {a : D} {d : D} {m : Nat} (hA : AOk A m) (ho : Ev w A env σ μ o a) (hg : GetM w A a name (.ref f)) (hc : Fn w f m [a] d)
    (hf : keepIn (Mine.hd.heap_1 w.params) (.ref f) = true := by rfl)
    (hb : ∀ env, attributeBase o name env (eval o env) = eval o env := by intros; rfl) (hl : (apos.endLine == pos.line) = true := by decide) :
    Ev w A env σ μ (.Call (.Attribute o name apos) [] [] pos) d := ⟨fun g av s h tk Q E st k => by
  obtain ⟨pl, he⟩ := meth_eq (name := name) (apos := apos) (pos := pos) (args := []) (hb env) hl rfl (by decide)
  refine methodCall_KW (kws := []) (ho.run g av s h tk _ E st fun v h1 tk1 e1 a1 => hg.run av s h1 tk1 v pl _ E (st.base.ext (st.ext.trans e1)) a1.t ?_) he
  have st1 := st.grow e1
  refine callWith_K0 (st1.base.ext st1.ext).K hf ?_
  exact hc.run A av s h1 tk1 [v] Q E hA (st1.base.ext st1.ext) st1.dom (.cons a1 .nil) fun r h3 tk3 e3 a3 => k r h3 tk3 (e1.trans e3) a3⟩

/-! displays -/
theorem ev_list {es : List Expr} {p : Pos} {ds : List D} (ha : Args w A env σ μ es ds) (hz : ds.length ≤ sizeLine := by simp [sizeLine]) : Ev w A env σ μ (.List es p) (.list ds) := ⟨fun g av s h tk Q E st k =>
  wpAny_List (ha.run g av s h tk p _ E st fun vs h1 tk1 e1 a1 => ⟨by rw [a1.length]; exact hz, k _ (h1.push _) tk1 (e1.trans (Ext.push _ _)) (.list (n := 0) (dom_fresh (st.grow e1).dom) (Heap.get?_push_size _ rfl) (a1.ext (Ext.push _ _)))⟩)⟩
theorem ev_tuple {es : List Expr} {k₀ : Nat} {p : Pos} {ds : List D} (ha : Args w A env σ μ es ds) (hz : ds.length ≤ sizeLine := by simp [sizeLine]) : Ev w A env σ μ (.Tuple es k₀ p) (.tuple ds) := ⟨fun g av s h tk Q E st k =>
  wpAny_Tuple (ha.run g av s h tk p _ E st fun vs h1 tk1 e1 a1 => ⟨by rw [a1.length]; exact hz, k _ (h1.push _) tk1 (e1.trans (Ext.push _ _)) (.tuple (n := 0) (dom_fresh (st.grow e1).dom) (Heap.get?_push_size _ rfl) (a1.ext (Ext.push _ _)))⟩)⟩

/-! subscripts -/
structure ItemD (w : World) (A : Around) (a i d : D) : Prop where
  run : ∀ (av : AV) (s : Shared) (h : Heap) (tk : Nat) (u v : Value) (Q : Value → Shared → Prop) (E : Value → Shared → Prop), (∀ a, av a → ∃ o, h.get? a = some o) → AtT av h u a → AtT av h v i →
    (∀ r h' tk', Ext h h' → At av h' r d → Q r (upd s h' tk')) → ∃ T id, typeLookup (.type T) (Str.ofString "__getitem__") = pure (some (.builtin id)) ∧ (upd s h tk).TypeIs u T ∧ wpAny (model P0 w) A (getItem u v) Q E (upd s h tk)
theorem ev_sub {o i : Expr} {p : Pos} {a b d : D} (ho : EvT w A env σ μ o a) (hi : EvT w A env σ μ i b) (hd : ItemD w A a b d)
    (hs : ∀ u v, ∃ ops, subscripted i false u v = operate ops (getItem u v) := by intros; exact ⟨_, rfl⟩) : Ev w A env σ μ (.Subscript o i p) d := ⟨fun g av s h tk Q E st k => by
  refine Subscript_ (ho.run g av s h tk _ E st fun u h1 tk1 e1 a1 => hi.run g av s h1 tk1 _ E (st.grow e1) fun v h2 tk2 e2 a2 => ?_)
  obtain ⟨T, id, hT, ht, hw⟩ := hd.run av s h2 tk2 u v Q E ((st.grow e1).grow e2).dom (a1.ext e2) a2 fun r h3 tk3 e3 a3 => k r h3 tk3 ((e1.trans e2).trans e3) a3
  obtain ⟨ops, e⟩ := hs u v
  exact tail_any ht hT hw e⟩
theorem ItemD.list {xs : List D} {i : Int} {d : D} (h0 : 0 ≤ i) (h1 : i < 2 ^ 63) (hd : xs[i.toNat]? = some d) : ItemD w A (.list xs) (.int i) d := ⟨fun av s h tk u v Q E dm x y k => by
  obtain ⟨a, vs, n, rfl, ho, hs⟩ := x.list; obtain ⟨t, rfl⟩ := y.int
  obtain ⟨r, hr, ar⟩ := hs.get hd
  have hl : h.IsList a vs.toArray := ⟨_, ho, rfl, n, rfl⟩
  exact ⟨_, _, slot_list_getitem.lookup, hl.typeIs (s := upd s h tk), wpAny_getItem_list (s := upd s h tk) hl h0 h1 (by simpa using hr) (k r h tk (Ext.refl h) ar)⟩⟩
theorem ItemD.last {xs : List D} {i : Int} {d : D} (h0 : i < 0) (h1 : -(xs.length : Int) ≤ i) (hz : -(2 ^ 63) ≤ i) (hd : xs[(i + xs.length).toNat]? = some d) : ItemD w A (.list xs) (.int i) d := ⟨fun av s h tk u v Q E dm x y k => by
  obtain ⟨a, vs, n, rfl, ho, hs⟩ := x.list; obtain ⟨t, rfl⟩ := y.int
  obtain ⟨r, hr, ar⟩ := hs.get hd
  have hl : h.IsList a vs.toArray := ⟨_, ho, rfl, n, rfl⟩
  have e := hs.length
  exact ⟨_, _, slot_list_getitem.lookup, hl.typeIs (s := upd s h tk), wpAny_getItem_list_neg (s := upd s h tk) hl h0 (by simpa [e] using h1) hz (by simpa [e] using hr) (k r h tk (Ext.refl h) ar)⟩⟩
theorem ItemD.tuple {xs : List D} {i : Int} {j : Nat} {d : D} (h0 : -(2 ^ 63) ≤ i) (h1 : i < 2 ^ 63) (hj : seqIndex? i xs.length = some j) (hd : xs[j]? = some d) : ItemD w A (.tuple xs) (.int i) d := ⟨fun av s h tk u v Q E dm x y k => by
  obtain ⟨a, vs, n, rfl, na, ho, hs⟩ := x.tuple; obtain ⟨t, rfl⟩ := y.int
  obtain ⟨r, hr, ar⟩ := hs.get hd
  have e := hs.length
  exact ⟨"tuple", _, F.slot_tuple_getitem.lookup, ⟨_, ho, rfl⟩, P.getItem_tuple (s := upd s h tk) (items := vs.toArray) (n := n) ho h0 h1 (by simpa [e] using hj) (by simpa using hr) (k r h tk (Ext.refl h) ar)⟩⟩
theorem ItemD.str {x : Str} {i : Int} {c : Nat} (h0 : -(2 ^ 63) ≤ i) (h1 : i < 2 ^ 63) (hj : ((seqIndex? i x.length).bind fun j => x.cps[j]?) = some c) : ItemD w A (.str x) (.int i) (.str ⟨#[c]⟩) := ⟨fun av s h tk u v Q E dm a b k => by
  obtain ⟨t, rfl⟩ := a.str; obtain ⟨t', rfl⟩ := b.int
  refine ⟨"str", _, F.slot_str_getitem.lookup, typeIs_str _ _ _, PySem.P.getItem_str (s := upd s h tk) ?_ hj (k _ h (tk + 1) (Ext.refl h) (.str _ _))⟩
  simp only [Bool.or_eq_false_iff, decide_eq_false_iff_not]; omega⟩
end
end
section

/-- the frame goes on; some live addresses may be let go -/
theorem S.go2 {w g env av av' h h' σ μ} (x : S w g env av h σ μ) (e : Ext g h') (ha : ∀ a o, ¬ av a → h.get? a = some o → ¬ av' a ∧ h'.get? a = some o)
    (hL : av' env.locals) (hC : ∀ y c, env.cells.lookup y = some c → av' c) (hM : ∀ a mo, μ.lookup a = some mo → av' a) (dom : ∀ a, av' a → ∃ o, h'.get? a = some o)
    (own : ∀ a o, (a = env.locals ∨ (∃ y, env.cells.lookup y = some a) ∨ ∃ mo, μ.lookup a = some mo) → h.get? a = some o → h'.get? a = some o) : S w g env av' h' σ μ where
  base := x.base
  ext := e
  kind := x.kind
  glob := x.glob
  blt := x.blt
  ns := by
    obtain ⟨m, ⟨o, es, ep, ho, r⟩, hm⟩ := x.ns
    exact ⟨m, ⟨o, es, ep, own _ _ (.inl rfl) ho, r⟩, fun y sv q k => let ⟨v, a, b⟩ := hm y sv q k; ⟨v, a, b.mono ha⟩⟩
  cells := fun y sv q k => by
    obtain ⟨k1, c, v, l, ⟨o, ho, hd⟩, b⟩ := x.cells y sv q k
    exact ⟨k1, c, v, l, ⟨o, own _ _ (.inr (.inl ⟨_, l⟩)) ho, hd⟩, b.mono ha⟩
  ownL := ⟨hL, x.ownL.2⟩
  ownC := fun y c q => by
    obtain ⟨a, b, d, v, o, ho, hd⟩ := x.ownC y c q
    exact ⟨hC _ _ q, b, d, v, o, own _ _ (.inr (.inl ⟨_, q⟩)) ho, hd⟩
  apart := x.apart
  dom := dom
  mu := fun a mo q => by
    obtain ⟨b, c, d, e, f⟩ := x.mu a mo q
    exact ⟨MO.holds_mono ha (fun o => own _ o (.inr (.inr ⟨_, q⟩))) b, hM a mo q, d, e, f⟩

abbrev KeepBut (wr : List Addr) (h h' : Heap) : Prop := ∀ a o, a ∉ wr → h.get? a = some o → h'.get? a = some o

/-- an iterator that hands out ds -/
structure It (tup : Bool) (w : World) (A : Around) (av : AV) (I : Addr) (wr : List Addr) (St : Nat → Heap → Prop) (ds : List D) : Prop where
  self : I ∈ wr
  alive : ∀ i h, St i h → ∀ a ∈ wr, ∃ o, h.get? a = some o
  frame : ∀ i h h', St i h → (∀ a o, (a ∈ wr ∨ ¬ av a) → h.get? a = some o → h'.get? a = some o) → St i h'
  next : ∀ (target : Expr) (i : Nat) (d : D) (s : Shared) (h : Heap) (tk : Nat) (Q : Value → Shared → Prop) (E : Value → Shared → Prop), (tup = true → ∃ es k p, target = .Tuple es k p) → ∀ avc : AV, (∀ a, avc a → av a) → (∀ a ∈ wr, avc a) → St i h → ds[i]? = some d → (∀ a, avc a → ∃ o, h.get? a = some o) →
    (∀ v h' tk', St (i + 1) h' → KeepBut wr h h' → At avc h' v d → Q v (upd s h' tk')) →
    wpAny (model P0 w) A (pyNext (.ref I)) (fun r s1 => ∃ v, r = some v ∧ wpAny (model P0 w) A (letOwnedTupleGo target (.ref I) v) (fun _ s2 => Q v s2) E s1) E (upd s h tk)
  done : ∀ (s : Shared) (h : Heap) (tk : Nat) (Q : Shared → Prop) (E : Value → Shared → Prop), St ds.length h → (∀ h' tk', KeepBut wr h h' → Q (upd s h' tk')) →
    wpAny (model P0 w) A (pyNext (.ref I)) (fun r s1 => r = none ∧ Q s1) E (upd s h tk)
  again : ∀ (i : Nat) (s : Shared) (h : Heap) (tk : Nat) (Q : Value → Shared → Prop) (E : Value → Shared → Prop), St i h → Q (.ref I) (upd s h tk) → wpAny (model P0 w) A (pyIter (.ref I)) Q E (upd s h tk)

/-- an expression whose items are walked -/
structure Src (tup : Bool) (w : World) (A : Around) (env : Env) (σ : Sg) (μ : Mu) (e : Expr) (ds : List D) : Prop where
  run : ∀ (g : Heap) (av : AV) (s : Shared) (h : Heap) (tk : Nat) (Q : Value → Shared → Prop) (E : Value → Shared → Prop), S w g env av h σ μ →
    (∀ (I : Addr) (wr : List Addr) (h' : Heap) (tk' : Nat), (∀ av' : AV, (∀ a, av a → av' a) → (∀ a ∈ wr, av' a) → (∀ a, av' a → av a ∨ a ∈ wr ∨ h'.get? a = none) → ∃ St, It tup w A av' I wr St ds ∧ St 0 h') → Ext h h' → (∀ a ∈ wr, h.get? a = none ∧ ∃ o, h'.get? a = some o) → Q (.ref I) (upd s h' tk')) →
    wpAny (model P0 w) A (eval e env) (fun x s1 => wpAny (model P0 w) A (pyIter x) Q E s1) E (upd s h tk)

theorem letGo_plain {w : World} {A : Around} {target : Expr} {I : Addr} {n : String} {vs : Array Value} {o : Obj} {s : Shared} {v : Value} {Q : Unit → Shared → Prop} {E : Value → Shared → Prop}
    (ho : s.heap.get? I = some o) (hc : o.cls = .type n) (hd : o.data = .fields vs) (hn : ["enumerate", "zip", "dict_itemiterator", "dict_reverseitemiterator", "odict_iterator", "itertools.zip_longest", "itertools.pairwise"].contains n = false) (k : Q () s) :
    wpAny (model P0 w) A (letOwnedTupleGo target (.ref I) v) Q E s := by
  unfold letOwnedTupleGo
  have body : ∀ a, v = .ref a → wpAny (model P0 w) A (do
      let o ← load I
      match o.cls, o.data with
      | .type n, .fields vs =>
        if ["enumerate", "zip", "dict_itemiterator", "dict_reverseitemiterator", "odict_iterator", "itertools.zip_longest", "itertools.pairwise"].contains n && vs[0]? == some (rawInt a) then do
          rule "for.unpacks-the-owned-tuple"
          updateField I 0 .none
        else pure ()
      | _, _ => pure ()) Q E s := fun a e => by
    refine wpAny_bind (wpAny_load ho ?_)
    rw [hc, hd]
    show wpAny _ _ (if (["enumerate", "zip", "dict_itemiterator", "dict_reverseitemiterator", "odict_iterator", "itertools.zip_longest", "itertools.pairwise"].contains n && vs[0]? == some (rawInt a)) = true then _ else _) Q E s
    rw [hn, Bool.false_and, if_neg Bool.false_ne_true]
    exact wpAny_pure k
  cases target <;> first
    | exact wpAny_pure k
    | (cases v <;> first | exact wpAny_pure k | exact body _ rfl)

theorem more_of {av av' : AV} {wr : List Addr} {h1 h' : Heap} (e : Ext h1 h') (fresh : ∀ a ∈ wr, h1.get? a = none) (mo : ∀ a, av' a → av a ∨ a ∈ wr ∨ h'.get? a = none) :
    ∀ b o, ¬ av b → h1.get? b = some o → ¬ av' b ∧ h'.get? b = some o := fun b o nb q => by
  refine ⟨fun r => ?_, e _ _ q⟩
  rcases mo b r with r | r | r
  · exact nb r
  · rw [fresh b r] at q; cases q
  · rw [e _ _ q] at r; cases r

section
variable {w : World} {A : Around}
theorem It.list (hh : A.handled = none) {av : AV} {I a : Addr} {vs : List Value} {n : Nat} {ds : List D} (hI : av I) (ha : ¬ av a) :
    It false w A av I [I] (fun i h => h.IsListIter I a i ∧ h.get? a = some (lstO vs n) ∧ Ats av h vs ds) ds where
  self := List.mem_singleton.mpr rfl
  alive := fun i h st b hb => by cases List.mem_singleton.mp hb; obtain ⟨⟨o, ho, _⟩, _⟩ := st; exact ⟨o, ho⟩
  frame := fun i h h' st k => ⟨st.1.at fun o e => k I o (.inl (List.mem_singleton.mpr rfl)) e, k a _ (.inr ha) st.2.1, st.2.2.off fun b o nb e => k b o (.inr nb) e⟩
  next := fun target i d s h tk Q E htg avc hc wc st hd dom k => by
    obtain ⟨h1, h2, h3⟩ := st
    obtain ⟨v, hv, av'⟩ := h3.get hd
    have hl : h.IsList a vs.toArray := ⟨_, h2, rfl, n, rfl⟩
    refine wpAny_pyNext_list_item (s := upd s h tk) h1 hl (x := v) (by simpa using hv) fun h' hit hs => ⟨v, rfl, ?_⟩
    have hne : ∀ b, ¬ av b → b ≠ I := fun b nb e => nb (e ▸ hI)
    have off : Off av h h' := fun b o nb e => (hs.2 b (hne b nb)).trans e
    obtain ⟨o, ho, hcl, hd'⟩ := id hit
    refine letGo_plain (s := upd s h' tk) ho hcl hd' (by decide) ?_
    exact k v h' tk ⟨hit, off a _ ha h2, h3.off off⟩ (fun b o nb e => (hs.2 b fun q => nb (List.mem_singleton.mpr q)).trans e) ((av'.off off).less hc)
  done := fun s h tk Q E st k => by
    obtain ⟨h1, h2, h3⟩ := st
    have hl : h.IsList a vs.toArray := ⟨_, h2, rfl, n, rfl⟩
    refine wpAny_pyNext_list_end (s := upd s h tk) hh h1 hl (by simp [h3.length]) fun h' he => ⟨rfl, k h' tk fun b o nb e => he b o (fun q => nb (List.mem_singleton.mpr q)) e⟩
  again := fun i s h tk Q E st k => wpAny_pyIter_listiter (s := upd s h tk) st.1 k

variable {env : Env} {σ : Sg} {μ : Mu}
theorem src_list (hh : A.handled = none) {e : Expr} {ds : List D} (he : Ev w A env σ μ e (.list ds)) : Src false w A env σ μ e ds := ⟨fun g av s h tk Q E st k => by
  refine he.run g av s h tk _ E st fun x h1 tk1 e1 a1 => ?_
  cases a1 with
  | @list a vs ds n na ho hs =>
    have hl : h1.IsList a vs.toArray := ⟨_, ho, rfl, n, rfl⟩
    refine wpAny_pyIter_list (s := upd s h1 tk1) hl ?_
    have fresh : h1.get? h1.objs.size = none := by
      cases q : h1.get? h1.objs.size with
      | none => rfl
      | some o => exact absurd (Heap.lt_size q) (Nat.lt_irrefl _)
    have fresh0 : h.get? h1.objs.size = none := by
      cases q : h.get? h1.objs.size with
      | none => rfl
      | some o => rw [e1 _ _ q] at fresh; cases fresh
    have nI : a ≠ h1.objs.size := Nat.ne_of_lt (Heap.lt_size ho)
    refine k _ [h1.objs.size] (h1.push _) tk1 (fun av' up inn mo => ?_) (e1.trans (Ext.push _ _)) (fun b hb => by cases List.mem_singleton.mp hb; exact ⟨fresh0, _, Heap.get?_push_size _ rfl⟩)
    refine ⟨_, It.list hh (a := a) (vs := vs) (n := n) (inn _ (List.mem_singleton.mpr rfl)) (fun q => ?_), ⟨⟨_, Heap.get?_push_size _ rfl, rfl, rfl⟩, Heap.get?_push_of_some _ ho, ?_⟩⟩
    · rcases mo a q with q | q | q
      · exact na q
      · exact nI (List.mem_singleton.mp q)
      · rw [Heap.get?_push_of_some _ ho] at q; cases q
    · exact hs.mono (more_of (Ext.push _ _) (fun b hb => by cases List.mem_singleton.mp hb; exact fresh) mo)⟩

/-- the ints from a on, n of them -/
def upTo (a : Int) : Nat → List D
  | 0 => []
  | n + 1 => .int a :: upTo (a + 1) n
theorem upTo_get : ∀ (n : Nat) (a : Int) (i : Nat), i < n → (upTo a n)[i]? = some (.int (a + i))
  | 0, _, _, h => absurd h (Nat.not_lt_zero _)
  | n + 1, a, 0, _ => by simp [upTo]
  | n + 1, a, i + 1, h => by
    have := upTo_get n (a + 1) i (by omega)
    simp only [upTo, List.getElem?_cons_succ, this]
    congr 2; push_cast; omega
theorem upTo_length : ∀ (n : Nat) (a : Int), (upTo a n).length = n
  | 0, _ => rfl
  | n + 1, a => by simp [upTo, upTo_length n]

theorem It.range (hh : A.handled = none) {av : AV} {I : Addr} {a : Int} {n : Nat} (hI : av I) :
    It false w A av I [I] (fun i h => IsRangeIter h I (a + i) ((n : Int) - i) 1) (upTo a n) where
  self := List.mem_singleton.mpr rfl
  alive := fun i h st b hb => by cases List.mem_singleton.mp hb; exact ⟨_, st⟩
  frame := fun i h h' st k => k I _ (.inl (List.mem_singleton.mpr rfl)) st
  next := fun target i d s h tk Q E htg avc hc wc st hd dom k => by
    have hlt : i < n := by
      by_cases q : i < n
      · exact q
      · rw [List.getElem?_eq_none (by rw [upTo_length]; omega)] at hd; cases hd
    rw [upTo_get n a i hlt] at hd
    cases hd
    refine wpAny_pyNext_range_item (s := upd s h tk) st (by omega) fun h' hit hs => ⟨_, rfl, ?_⟩
    refine letGo_plain (s := upd s h' (tk + 1)) hit rfl rfl (by decide) ?_
    refine k _ h' (tk + 1) ?_ (fun b o nb e => (hs.2 b fun q => nb (List.mem_singleton.mpr q)).trans e) (.int _ _)
    have e1 : a + (i : Int) + 1 = a + ((i + 1 : Nat) : Int) := by push_cast; omega
    have e2 : (n : Int) - i - 1 = n - ((i + 1 : Nat) : Int) := by push_cast; omega
    rw [← e1, ← e2]; exact hit
  done := fun s h tk Q E st k => by
    rw [upTo_length] at st
    exact wpAny_pyNext_range_end (s := upd s h tk) hh st (by omega) fun h' he => ⟨rfl, k h' tk fun b o nb e => he b o (fun q => nb (List.mem_singleton.mpr q)) e⟩
  again := fun i s h tk Q E st k => wpAny_pyIter_rangeiter (s := upd s h tk) st k

theorem callB_raw {g : Heap} {av : AV} {h : Heap} {s : Shared} {tk : Nat} {Q : Value → Shared → Prop} {E : Value → Shared → Prop} {n : Str} {p pos : Pos} {e : Expr} {es : List Expr} {f : Value} {ds : List D}
    (st : S w g env av h σ μ) (hk : env.kindOf n = some .globalImplicit) (hv : IsGlob w n f) (ha : ArgsT w A env σ μ (e :: es) ds)
    (k : ∀ vs h' tk', Ext h h' → AtTs av h' vs ds → wpAny (model P0 w) A (call f vs) Q E (upd s h' tk'))
    (hf : keeperOf f = pure .machine := by rfl) (hd : (n == ("__debug__" : Str)) = false := by decide)
    (hx : ∀ env, starEach (e :: es) env = (false, eval e env) :: starEach es env := by intros; rfl) (hp : ∀ env pos, (backTo pos (starEach es env)).any (·.1) = false := by intros; rfl)
    (hq : ∀ env, eval (.Call (.Name n p) (e :: es) [] pos) env = (do callWith pos (← eval (.Name n p) env) [] (backTo pos (starEach (e :: es) env)) (backToKw pos (keywordEach [] env))) := by intros; rfl) :
    wpAny (model P0 w) A (eval (.Call (.Name n p) (e :: es) [] pos) env) Q E (upd s h tk) := by
  refine Call_ (ld_glob st hk hv ?_ hd) (hq env)
  rw [hx]
  refine callWith_of (P := fun _ => True) (by show (((false || (backTo pos (starEach es env)).any (·.1)) || false)) = false; rw [hp]; rfl) (keeps_machine hf) (evalArgs_plain ?_)
  have := ha.run g av s h tk pos (fun vs s₁ => True ∧ wpAny (model P0 w) A (call f ([] ++ vs) []) Q E s₁) E st fun vs h1 tk1 e1 a1 => ⟨trivial, k vs h1 tk1 e1 a1⟩
  rw [hx] at this
  exact this

theorem not_here (h : Heap) : h.get? h.objs.size = none := by
  cases q : h.get? h.objs.size with
  | none => rfl
  | some o => exact absurd (Heap.lt_size q) (Nat.lt_irrefl _)
theorem not_before {h h' : Heap} (e : Ext h h') {a : Addr} (q : h'.get? a = none) : h.get? a = none := by
  cases r : h.get? a with
  | none => rfl
  | some o => rw [e _ _ r] at q; cases q

theorem range_walk (hh : A.handled = none) {av : AV} {h0 h : Heap} {s : Shared} {tk : Nat} {r : Addr} {a b : Int} {t u v : Tok} {Q : Value → Shared → Prop} {E : Value → Shared → Prop} (e0 : Ext h0 h)
    (hr : IsRange h r a b 1 t u v) (hs : Builtin.Range.small a b 1 = true)
    (k : ∀ (I : Addr) (wr : List Addr) (h' : Heap) (tk' : Nat), (∀ av' : AV, (∀ a, av a → av' a) → (∀ a ∈ wr, av' a) → (∀ a, av' a → av a ∨ a ∈ wr ∨ h'.get? a = none) → ∃ St, It false w A av' I wr St (upTo a (b - a).toNat) ∧ St 0 h') → Ext h0 h' → (∀ a ∈ wr, h0.get? a = none ∧ ∃ o, h'.get? a = some o) → Q (.ref I) (upd s h' tk')) :
    wpAny (model P0 w) A (pyIter (.ref r)) Q E (upd s h tk) := by
  refine wpAny_pyIter_range (s := upd s h tk) hr hs ?_
  refine k h.objs.size [h.objs.size] (h.push _) tk (fun av' up inn mo => ⟨_, It.range hh (inn _ (List.mem_singleton.mpr rfl)), ?_⟩) (e0.trans (Ext.push _ _)) fun b hb => by cases List.mem_singleton.mp hb; exact ⟨not_before e0 (not_here h), _, Heap.get?_push_size _ rfl⟩
  have e : Builtin.Range.rangeSize a b 1 = (((b - a).toNat : Nat) : Int) := by rw [rangeSize_one]; split <;> omega
  show IsRangeIter _ _ (a + ((0 : Nat) : Int)) ((((b - a).toNat : Nat) : Int) - ((0 : Nat) : Int)) 1
  rw [← e, show a + ((0 : Nat) : Int) = a by simp, show Builtin.Range.rangeSize a b 1 - ((0 : Nat) : Int) = Builtin.Range.rangeSize a b 1 by simp]
  exact Heap.get?_push_size _ rfl

theorem src_range1 (hh : A.handled = none) {p pos : Pos} {e : Expr} {b : Int} (hk : env.kindOf "range" = some .globalImplicit) (hv : IsGlob w "range" (.type "range")) (ha : ArgsT w A env σ μ [e] [.int b]) (hs : Builtin.Range.small 0 b 1 = true)
    (hx : ∀ env, starEach [e] env = (false, eval e env) :: starEach [] env := by intros; rfl) : Src false w A env σ μ (.Call (.Name "range" p) [e] [] pos) (upTo 0 b.toNat) := ⟨fun g av s h tk Q E st k => by
  refine callB_raw st hk hv ha (fun vs h1 tk1 e1 a1 => ?_) (hx := hx)
  obtain ⟨v, rfl, q⟩ := a1.one
  obtain ⟨t, rfl⟩ := q.int
  refine call_range_1 (s := upd s h1 tk1) ?_
  refine range_walk (s := s) (av := av) (h := h1.push _) (tk := tk1 + 1 + 1) (a := 0) (b := b) hh (e1.trans (Ext.push _ _)) (Heap.get?_push_size _ rfl) hs ?_
  rw [Int.sub_zero]; exact k⟩
theorem src_range2 (hh : A.handled = none) {p pos : Pos} {e1 e2 : Expr} {a b : Int} (hk : env.kindOf "range" = some .globalImplicit) (hv : IsGlob w "range" (.type "range")) (ha : ArgsT w A env σ μ [e1, e2] [.int a, .int b]) (hs : Builtin.Range.small a b 1 = true)
    (hx : ∀ env, starEach [e1, e2] env = (false, eval e1 env) :: starEach [e2] env := by intros; rfl) (hp : ∀ env pos, (backTo pos (starEach [e2] env)).any (·.1) = false := by intros; rfl) : Src false w A env σ μ (.Call (.Name "range" p) [e1, e2] [] pos) (upTo a (b - a).toNat) := ⟨fun g av s h tk Q E st k => by
  refine callB_raw st hk hv ha (fun vs h1 tk1 e1 a1 => ?_) (hx := hx) (hp := hp)
  obtain ⟨v, u, rfl, q1, q2⟩ := a1.two
  obtain ⟨t, rfl⟩ := q1.int
  obtain ⟨t', rfl⟩ := q2.int
  refine call_range_2 (s := upd s h1 tk1) ?_
  exact range_walk (s := s) (h := h1.push _) (tk := tk1 + 1) hh (e1.trans (Ext.push _ _)) (Heap.get?_push_size _ rfl) hs k⟩

def pairs : List D → List D → List D
  | a :: as, b :: bs => .tuple [a, b] :: pairs as bs
  | _, _ => []
theorem pairs_get : ∀ (xs ys : List D) (i : Nat) (d : D), (pairs xs ys)[i]? = some d → ∃ a b, xs[i]? = some a ∧ ys[i]? = some b ∧ d = .tuple [a, b]
  | a :: as, b :: bs, 0, d, h => by simp [pairs] at h; exact ⟨a, b, by simp, by simp, h.symm⟩
  | a :: as, b :: bs, i + 1, d, h => by simpa using pairs_get as bs i d (by simpa [pairs] using h)
  | [], _, _, _, h => by simp [pairs] at h
  | _ :: _, [], _, _, h => by simp [pairs] at h
theorem pairs_length : ∀ (xs ys : List D), (pairs xs ys).length = min xs.length ys.length
  | a :: as, b :: bs => by simp [pairs, pairs_length as bs]
  | [], _ => by simp [pairs]
  | _ :: _, [] => by simp [pairs]

theorem It.zip (hh : A.handled = none) {av : AV} {z TI TO i1 i2 l1 l2 : Addr} (Dz : ZipApart z TI TO i1 i2 l1 l2) {v1 v2 : List Value} {n1 n2 : Nat} {d1 d2 : List D} (hz : av z) (hT : av TO) (hTI : ¬ av TI) (h1 : av i1) (h2 : av i2) (n1' : ¬ av l1) (n2' : ¬ av l2) :
    It true w A av z [z, TO, i1, i2] (fun i h => IsZip h z TI TO .none ∧ IsPair h TI (.ref i1) (.ref i2) ∧ (∃ a b, IsPair h TO a b) ∧ h.IsListIter i1 l1 i ∧ h.IsListIter i2 l2 i ∧ (h.get? l1 = some (lstO v1 n1) ∧ Ats av h v1 d1) ∧ h.get? l2 = some (lstO v2 n2) ∧ Ats av h v2 d2) (pairs d1 d2) where
  self := .head _
  alive := fun i h ⟨a, _, ⟨x, y, c⟩, ⟨o1, p, _⟩, ⟨o2, q, _⟩, _⟩ b hb => by
    simp only [List.mem_cons, List.mem_nil_iff, or_false] at hb
    rcases hb with rfl | rfl | rfl | rfl
    · exact ⟨_, a⟩
    · exact ⟨_, c⟩
    · exact ⟨_, p⟩
    · exact ⟨_, q⟩
  frame := fun i h h' ⟨a, b, ⟨x, y, c⟩, d, e, ⟨f, f'⟩, q, q'⟩ k => ⟨k z _ (.inl (by simp)) a, k TI _ (.inr hTI) b, ⟨x, y, k TO _ (.inl (by simp)) c⟩, d.at fun o r => k i1 o (.inl (by simp)) r, e.at fun o r => k i2 o (.inl (by simp)) r,
    ⟨k l1 _ (.inr n1') f, f'.off fun b o nb r => k b o (.inr nb) r⟩, k l2 _ (.inr n2') q, q'.off fun b o nb r => k b o (.inr nb) r⟩
  next := fun target i d s h tk Q E htg avc hc wc ⟨a, b, ⟨x, y, c⟩, p1, p2, ⟨f, f'⟩, q, q'⟩ hd dom k => by
    obtain ⟨da, db, ha, hb, rfl⟩ := pairs_get _ _ _ _ hd
    obtain ⟨va, hva, aa⟩ := f'.get ha
    obtain ⟨vb, hvb, ab⟩ := q'.get hb
    refine wpAny_pyNext_zip_item (s := upd s h tk) (xs := v1.toArray) (ys := v2.toArray) (x := va) (y := vb) Dz a b c p1 p2 ⟨_, f, rfl, n1, rfl⟩ ⟨_, q, rfl, n2, rfl⟩ (by simpa using hva) (by simpa using hvb) fun h' z1 z2 z3 z4 z5 z6 z7 => ⟨_, rfl, ?_⟩
    have kb : KeepBut [z, TO, i1, i2] h h' := fun c o nc e => by simp only [List.mem_cons, List.mem_nil_iff, or_false, not_or] at nc; exact z7 c o nc.1 nc.2.1 nc.2.2.1 nc.2.2.2 e
    have off : Off av h h' := fun c o nc e => kb c o (by simp only [List.mem_cons, List.mem_nil_iff, or_false, not_or]; exact ⟨fun r => nc (r ▸ hz), fun r => nc (r ▸ hT), fun r => nc (r ▸ h1), fun r => nc (r ▸ h2)⟩) e
    have nT : ¬ avc h.objs.size := dom_fresh dom
    have fin : ∀ h2 : Heap, IsZip h2 z TI TO .none → Heap.SameBut z h' h2 → Q (.ref h.objs.size) (upd s h2 tk) := fun h2 hz2 hs2 => by
      have off2 : Off av h' h2 := fun c o nc e => (hs2.2 c fun r => nc (r ▸ hz)).trans e
      have ne2 : ∀ {c : Addr} {o : Obj}, h'.get? c = some o → c ≠ z → h2.get? c = some o := fun e n => (hs2.2 _ n).trans e
      refine k _ h2 tk ⟨hz2, off2 _ _ hTI (off _ _ hTI b), ⟨_, _, ne2 z2 Dz.TOz⟩, z3.extBut hs2.extBut Dz.i1z, z4.extBut hs2.extBut Dz.i2z, ⟨off2 _ _ n1' (off _ _ n1' f), (f'.off off).off off2⟩, off2 _ _ n2' (off _ _ n2' q), (q'.off off).off off2⟩
        (fun c o nc e => ne2 (kb c o nc e) fun r => nc (by simp [r])) (.tuple (vs := [va, vb]) (n := 0) nT (ne2 z5 fun r => nT (r ▸ wc z (.head _))) (.cons (((aa.off off).off off2).less hc) (.cons (((ab.off off).off off2).less hc) .nil)))
    obtain ⟨es, k0, p0, rfl⟩ := htg rfl
    exact wpAny_letOwnedTupleGo_zip (s := upd s h' tk) z1 fin
  done := fun s h tk Q E ⟨a, b, ⟨x, y, c⟩, p1, p2, ⟨f, f'⟩, q, q'⟩ k => by
    refine wpAny_pyNext_zip_end (s := upd s h tk) (xs := v1.toArray) (ys := v2.toArray) hh Dz a b c p1 p2 ⟨_, f, rfl, n1, rfl⟩ ⟨_, q, rfl, n2, rfl⟩ ?_ fun h' kk => ⟨rfl, k h' tk fun c o nc e => ?_⟩
    · rw [pairs_length]
      rcases Nat.le_total d1.length d2.length with r | r
      · exact .inl (by rw [Nat.min_eq_left r]; simp [f'.length])
      · exact .inr (by rw [Nat.min_eq_right r]; simp [q'.length])
    · simp only [List.mem_cons, List.mem_nil_iff, or_false, not_or] at nc
      exact kk c o nc.1 nc.2.1 nc.2.2.1 nc.2.2.2 e
  again := fun i s h tk Q E st k => wpAny_pyIter_zip (s := upd s h tk) st.1 k

theorem callB_rawA {g : Heap} {av : AV} {h : Heap} {s : Shared} {tk : Nat} {Q : Value → Shared → Prop} {E : Value → Shared → Prop} {n : Str} {p pos : Pos} {e : Expr} {es : List Expr} {f : Value} {ds : List D}
    (st : S w g env av h σ μ) (hk : env.kindOf n = some .globalImplicit) (hv : IsGlob w n f) (ha : Args w A env σ μ (e :: es) ds)
    (k : ∀ vs h' tk', Ext h h' → Ats av h' vs ds → wpAny (model P0 w) A (call f vs) Q E (upd s h' tk'))
    (hf : keeperOf f = pure .machine := by rfl) (hd : (n == ("__debug__" : Str)) = false := by decide)
    (hx : ∀ env, starEach (e :: es) env = (false, eval e env) :: starEach es env := by intros; rfl) (hp : ∀ env pos, (backTo pos (starEach es env)).any (·.1) = false := by intros; rfl)
    (hq : ∀ env, eval (.Call (.Name n p) (e :: es) [] pos) env = (do callWith pos (← eval (.Name n p) env) [] (backTo pos (starEach (e :: es) env)) (backToKw pos (keywordEach [] env))) := by intros; rfl) :
    wpAny (model P0 w) A (eval (.Call (.Name n p) (e :: es) [] pos) env) Q E (upd s h tk) := by
  refine Call_ (ld_glob st hk hv ?_ hd) (hq env)
  rw [hx]
  refine callWith_of (P := fun _ => True) (by show (((false || (backTo pos (starEach es env)).any (·.1)) || false)) = false; rw [hp]; rfl) (keeps_machine hf) (evalArgs_plain ?_)
  have := ha.run g av s h tk pos (fun vs s₁ => True ∧ wpAny (model P0 w) A (call f ([] ++ vs) []) Q E s₁) E st fun vs h1 tk1 e1 a1 => ⟨trivial, k vs h1 tk1 e1 a1⟩
  rw [hx] at this
  exact this

theorem mem4 {n b : Nat} (q : b ∈ [n + 4, n + 3, n, n + 1]) : n ≤ b := by
  simp only [List.mem_cons, List.mem_nil_iff, or_false] at q; omega
theorem mem4l {n b : Nat} (q : b ∈ [n + 4, n + 3, n, n + 1]) (l : b < n) : False := absurd (mem4 q) (Nat.not_le.mpr l)
theorem zipApart {n l1 l2 : Nat} (h1 : l1 < n) (h2 : l2 < n) : ZipApart (n + 4) (n + 2) (n + 3) n (n + 1) l1 l2 := by
  constructor <;> (intro q; have q : @Eq Nat _ _ := q; omega)
theorem src_zip (hh : A.handled = none) {p pos : Pos} {e1 e2 : Expr} {d1 d2 : List D} (hk : env.kindOf "zip" = some .globalImplicit) (hv : IsGlob w "zip" (.type "zip")) (ha : Args w A env σ μ [e1, e2] [.list d1, .list d2])
    (hx : ∀ env, starEach [e1, e2] env = (false, eval e1 env) :: starEach [e2] env := by intros; rfl) (hp : ∀ env pos, (backTo pos (starEach [e2] env)).any (·.1) = false := by intros; rfl) : Src true w A env σ μ (.Call (.Name "zip" p) [e1, e2] [] pos) (pairs d1 d2) := ⟨fun g av s h tk Q E st k => by
  refine callB_rawA st hk hv ha (fun vs h1 tk1 e1 a1 => ?_) (hx := hx) (hp := hp)
  have dom := (st.grow e1).dom
  cases a1 with
  | cons a1 r => cases r with
    | cons a2 r => cases r with
      | nil =>
        cases a1 with
        | @list l1 v1 _ n1 na1 ho1 hs1 => cases a2 with
          | @list l2 v2 _ n2 na2 ho2 hs2 =>
            refine call_zip_2 (s := upd s h1 tk1) (l1 := l1) (l2 := l2) (xs := v1.toArray) (ys := v2.toArray) ⟨_, ho1, rfl, n1, rfl⟩ ⟨_, ho2, rfl, n2, rfl⟩ fun h' z1 z2 z3 z4 z5 z6 z7 => ?_
            have lt1 : l1 < h1.objs.size := Heap.lt_size ho1
            have lt2 : l2 < h1.objs.size := Heap.lt_size ho2
            have new : ∀ a, h1.objs.size ≤ a → h1.get? a = none := fun a ha => by
              cases q : h1.get? a with
              | none => rfl
              | some o => exact absurd (Heap.lt_size q) (Nat.not_lt.mpr ha)
            have nav : ∀ a, h1.objs.size ≤ a → ¬ av a := fun a ha q => by obtain ⟨o, e⟩ := dom a q; rw [new a ha] at e; cases e
            refine wpAny_pyIter_zip (s := upd s h' tk1) z1 ?_
            have fr : ∀ a ∈ [h1.objs.size + 4, h1.objs.size + 3, h1.objs.size, h1.objs.size + 1], h1.get? a = none := fun b q => new b (mem4 q)
            refine k (h1.objs.size + 4) [h1.objs.size + 4, h1.objs.size + 3, h1.objs.size, h1.objs.size + 1] h' tk1 (fun av' up inn mo => ?_) (e1.trans z7) fun b q => ⟨not_before e1 (fr b q), ?_⟩
            · have mm := more_of z7 fr mo
              refine ⟨_, It.zip (l1 := l1) (l2 := l2) (v1 := v1) (v2 := v2) (n1 := n1) (n2 := n2) (d1 := d1) (d2 := d2) (TI := h1.objs.size + 2) hh (zipApart lt1 lt2) (inn _ (by simp)) (inn _ (by simp)) (fun q => ?_) (inn _ (by simp)) (inn _ (by simp)) (mm _ _ na1 ho1).1 (mm _ _ na2 ho2).1,
                z1, z2, ⟨_, _, z3⟩, z4, z5, ⟨z7 _ _ ho1, hs1.mono mm⟩, z7 _ _ ho2, hs2.mono mm⟩
              rcases mo _ q with q | q | q
              · exact nav _ (Nat.le_add_right _ _) q
              · simp at q
              · have z2' : h'.get? (h1.objs.size + 2) = _ := z2
                rw [z2'] at q; cases q
            · simp only [List.mem_cons, List.mem_nil_iff, or_false] at q
              rcases q with rfl | rfl | rfl | rfl
              · exact ⟨_, z1⟩
              · exact ⟨_, z3⟩
              · obtain ⟨o, ho, _⟩ := z4; exact ⟨o, ho⟩
              · obtain ⟨o, ho, _⟩ := z5; exact ⟨o, ho⟩⟩
/-- a target takes a datum -/
structure Bind (w : World) (A : Around) (env : Env) (σ : Sg) (target : Expr) (d : D) (σ' : Sg) : Prop where
  run : ∀ (g : Heap) (av : AV) (μ : Mu) (s : Shared) (h : Heap) (tk : Nat) (v : Value) (Q : Unit → Shared → Prop) (E : Value → Shared → Prop), S w g env av h σ μ → At av h v d →
    (∀ h' tk', S w g env av h' σ' μ → Q () (upd s h' tk')) → wpAny (model P0 w) A (assign target env v) Q E (upd s h tk)
theorem bind_name {n : Str} {p : Pos} {d : D} (hs : Storable env n) : Bind w A env σ (.Name n p) d ((n, .d d) :: σ) := ⟨fun g av μ s h tk v Q E st a k =>
  wpAny_assign_Name (st_name (sv := .d d) st a hs fun h' tk' x _ => k h' tk' x)⟩
/-- the same, of locals alone -/
structure BindL (w : World) (A : Around) (env : Env) (σ : Sg) (target : Expr) (d : D) (σ' : Sg) : Prop where
  run : ∀ (g : Heap) (av : AV) (μ : Mu) (s : Shared) (h : Heap) (tk : Nat) (v : Value) (Q : Unit → Shared → Prop) (E : Value → Shared → Prop), S w g env av h σ μ → At av h v d →
    (∀ h' tk', S w g env av h' σ' μ → KeepBut [env.locals] h h' → Q () (upd s h' tk')) → wpAny (model P0 w) A (assign target env v) Q E (upd s h tk)
theorem bindL_name {n : Str} {p : Pos} {d : D} (hs : env.kindOf n = some .local) : BindL w A env σ (.Name n p) d ((n, .d d) :: σ) := ⟨fun g av μ s h tk v Q E st a k =>
  wpAny_assign_Name (st_local (sv := .d d) st a hs fun h' tk' x hs => k h' tk' x fun b o nb e => (hs.2 b fun q => nb (List.mem_singleton.mpr q)).trans e)⟩
/-- several names, in order -/
def bindAll : List Str → List D → Sg → Sg
  | n :: ns, d :: ds, σ => bindAll ns ds ((n, .d d) :: σ)
  | _, _, σ => σ
def nameEs : List Str → List Pos → List Expr
  | n :: ns, p :: ps => .Name n p :: nameEs ns ps
  | _, _ => []
theorem assignEach_names {env : Env} : ∀ (ns : List Str) (ps : List Pos), assignEach (nameEs ns ps) env = (nameEs ns ps).map fun e => (false, assign e env)
  | [], _ => by simp [nameEs, assignEach]
  | _ :: _, [] => by simp [nameEs, assignEach]
  | n :: ns, p :: ps => by
    show assignEach (.Name n p :: nameEs ns ps) env = _
    rw [show assignEach (.Name n p :: nameEs ns ps) env = (false, assign (.Name n p) env) :: assignEach (nameEs ns ps) env from rfl, assignEach_names ns ps]
    rfl
theorem st_names {g : Heap} {av : AV} {s : Shared} {E : Value → Shared → Prop} {Q : Unit → Shared → Prop} : ∀ (ns : List Str) (ps : List Pos) (vs : List Value) (ds : List D) (σ : Sg) (μ : Mu) (h : Heap) (tk : Nat), S w g env av h σ μ → Ats av h vs ds → ns.length = ds.length → ps.length = ns.length →
    (∀ n ∈ ns, Storable env n) → (∀ h' tk', S w g env av h' (bindAll ns ds σ) μ → Q () (upd s h' tk')) → wpAny (model P0 w) A (assignInOrder ((nameEs ns ps).map fun e => assign e env) vs) Q E (upd s h tk)
  | [], _, vs, ds, σ, μ, h, tk, st, a, hl, hp, hs, k => by
    cases ds with
    | nil => cases a; exact wpAny_pure (k h tk st)
    | cons _ _ => cases hl
  | n :: ns, [], vs, ds, σ, μ, h, tk, st, a, hl, hp, hs, k => by cases hp
  | n :: ns, p :: ps, vs, ds, σ, μ, h, tk, st, a, hl, hp, hs, k => by
    cases a with
    | nil => cases hl
    | @cons v d vs ds hv hs' =>
      show wpAny _ _ (do holding vs (assign (.Name n p) env v); assignInOrder ((nameEs ns ps).map fun e => assign e env) vs) _ _ _
      refine wpAny_bind (wpAny_holding (wpAny_assign_Name (st_name (sv := .d d) st hv (hs n (.head _)) fun h' tk' x off => ?_)))
      exact st_names ns ps vs ds _ μ h' tk' x (hs'.off off) (by simpa using hl) (by simpa using hp) (fun m hm => hs m (.tail _ hm)) k
theorem st_namesL {g : Heap} {av : AV} {s : Shared} {E : Value → Shared → Prop} {Q : Unit → Shared → Prop} : ∀ (ns : List Str) (ps : List Pos) (vs : List Value) (ds : List D) (σ : Sg) (μ : Mu) (h : Heap) (tk : Nat), S w g env av h σ μ → Ats av h vs ds → ns.length = ds.length → ps.length = ns.length →
    (∀ n ∈ ns, env.kindOf n = some .local) → (∀ h' tk', S w g env av h' (bindAll ns ds σ) μ → KeepBut [env.locals] h h' → Q () (upd s h' tk')) → wpAny (model P0 w) A (assignInOrder ((nameEs ns ps).map fun e => assign e env) vs) Q E (upd s h tk)
  | [], _, vs, ds, σ, μ, h, tk, st, a, hl, hp, hs, k => by
    cases ds with
    | nil => cases a; exact wpAny_pure (k h tk st fun _ _ _ e => e)
    | cons _ _ => cases hl
  | n :: ns, [], vs, ds, σ, μ, h, tk, st, a, hl, hp, hs, k => by cases hp
  | n :: ns, p :: ps, vs, ds, σ, μ, h, tk, st, a, hl, hp, hs, k => by
    cases a with
    | nil => cases hl
    | @cons v d vs ds hv hs' =>
      show wpAny _ _ (do holding vs (assign (.Name n p) env v); assignInOrder ((nameEs ns ps).map fun e => assign e env) vs) _ _ _
      refine wpAny_bind (wpAny_holding (wpAny_assign_Name (st_local (sv := .d d) st hv (hs n (.head _)) fun h' tk' x sb => ?_)))
      have off : Off av h h' := fun b o nb q => (sb.2 b fun e => nb (e ▸ st.ownL.1)).trans q
      exact st_namesL ns ps vs ds _ μ h' tk' x (hs'.off off) (by simpa using hl) (by simpa using hp) (fun m hm => hs m (.tail _ hm)) fun h2 tk2 x2 kb => k h2 tk2 x2 fun b o nb e => kb b o nb ((sb.2 b fun q => nb (List.mem_singleton.mpr q)).trans e)
theorem nameEs_length : ∀ (ns : List Str) (ps : List Pos), ps.length = ns.length → (nameEs ns ps).length = ns.length
  | [], _, _ => by simp [nameEs]
  | _ :: _, [], h => by cases h
  | n :: ns, p :: ps, h => by simp [nameEs, nameEs_length ns ps (by simpa using h)]
theorem findIdx_false {β : Type} : ∀ l : List (Bool × β), (∀ x ∈ l, x.1 = false) → l.findIdx? (·.1) = none := fun l h => List.findIdx?_eq_none_iff.mpr fun x hx => by rw [h x hx]
theorem bind_tuple (hh : A.handled = none) {es : List Expr} {k₀ : Nat} {pos : Pos} {ns : List Str} {ps : List Pos} {ds : List D} (he : es = nameEs ns ps) (hp : ps.length = ns.length) (hl : ns.length = ds.length) (hs : ∀ n ∈ ns, Storable env n) :
    Bind w A env σ (.Tuple es k₀ pos) (.tuple ds) (bindAll ns ds σ) := ⟨fun g av μ s h tk v Q E st a k => by
  subst he
  cases a with
  | @tuple t vs _ n na ho hs' =>
    have e1 : vs.length = ns.length := by rw [hs'.length, hl]
    refine wpAny_assign_Tuple (s := upd s h tk) (items := vs.toArray) hh ⟨_, ho, rfl, n, rfl⟩ (by rw [assignEach_names]; simp [nameEs_length ns ps hp, e1]) (by rw [assignEach_names]; exact findIdx_false _ (by intro x hx; simp at hx; obtain ⟨_, _, rfl⟩ := hx; rfl)) fun h' he => ?_
    have e2 : Ext h h' := fun b o q => he b o (fun r => by have := Heap.lt_size q; rw [r] at this; exact Nat.lt_irrefl _ this) q
    rw [assignEach_names, List.map_map]
    exact st_names ns ps vs ds σ μ h' tk (st.grow e2) (hs'.ext e2) hl hp hs k⟩
theorem bindL_tuple (hh : A.handled = none) {es : List Expr} {k₀ : Nat} {pos : Pos} {ns : List Str} {ps : List Pos} {ds : List D} (he : es = nameEs ns ps) (hp : ps.length = ns.length) (hl : ns.length = ds.length) (hs : ∀ n ∈ ns, env.kindOf n = some .local) :
    BindL w A env σ (.Tuple es k₀ pos) (.tuple ds) (bindAll ns ds σ) := ⟨fun g av μ s h tk v Q E st a k => by
  subst he
  cases a with
  | @tuple t vs _ n na ho hs' =>
    have e1 : vs.length = ns.length := by rw [hs'.length, hl]
    refine wpAny_assign_Tuple (s := upd s h tk) (items := vs.toArray) hh ⟨_, ho, rfl, n, rfl⟩ (by rw [assignEach_names]; simp [nameEs_length ns ps hp, e1]) (by rw [assignEach_names]; exact findIdx_false _ (by intro x hx; simp at hx; obtain ⟨_, _, rfl⟩ := hx; rfl)) fun h' he => ?_
    have e2 : Ext h h' := fun b o q => he b o (fun r => by have := Heap.lt_size q; rw [r] at this; exact Nat.lt_irrefl _ this) q
    rw [assignEach_names, List.map_map]
    exact st_namesL ns ps vs ds σ μ h' tk (st.grow e2) (hs'.ext e2) hl hp hs fun h2 tk2 x2 kb => k h2 tk2 x2 fun b o nb e => kb b o nb (e2 b o e)⟩
end
end
section

abbrev testsT (ifs : List Expr) (env : Env) : Sem Bool := forIn ifs true fun c r => if r = true then do let ok ← isTrue c env (eval c env); pure (ForInStep.yield ok) else pure (ForInStep.yield r)
/-- the tests of a clause -/
structure TrIfs (w : World) (A : Around) (env : Env) (σ : Sg) (μ : Mu) (ifs : List Expr) (b : Bool) : Prop where
  run : ∀ (g : Heap) (av : AV) (s : Shared) (h : Heap) (tk : Nat) (Q : Bool → Shared → Prop) (E : Value → Shared → Prop), S w g env av h σ μ →
    (∀ h' tk', Ext h h' → Q b (upd s h' tk')) → wpAny (model P0 w) A (testsT ifs env) Q E (upd s h tk)
section
variable {w : World} {A : Around} {env : Env} {σ : Sg} {μ : Mu}
theorem ifs_nil : TrIfs w A env σ μ [] true := ⟨fun g av s h tk Q E st k => wpAny_tests_nil (k h tk (Ext.refl h))⟩
theorem ifs_one {c : Expr} {b : Bool} (hc : Tr w A env σ μ c b) : TrIfs w A env σ μ [c] b := ⟨fun g av s h tk Q E st k => wpAny_tests_one (hc.run g av s h tk _ E st k)⟩
end

/-- a comprehension's inner step upon the list it fills -/
structure Body (w : World) (A : Around) (env : Env) (σ : Sg) (t : Value → Sem Unit) (out : List D) : Prop where
  run : ∀ (g : Heap) (av : AV) (μ : Mu) (Da : Addr) (ys : List D) (s : Shared) (h : Heap) (tk : Nat) (Q : Shared → Prop) (E : Value → Shared → Prop), S w g env av h σ ((Da, .list ys) :: μ) → ys.length + out.length ≤ sizeLine → (∀ mo, μ.lookup Da ≠ some mo) →
    (∀ h' tk', KeepBut [env.locals, Da] h h' → S w g env av h' σ ((Da, .list (ys ++ out)) :: μ) → Q (upd s h' tk')) → wpAny (model P0 w) A (t (.ref Da)) (fun _ s' => Q s') E (upd s h tk)

theorem lookupM_cons {α : Type} {a b : Addr} {mo : α} {μ : List (Addr × α)} : List.lookup a ((b, mo) :: μ) = if a = b then some mo else μ.lookup a := by
  rw [List.lookup_cons]
  by_cases h : a = b
  · subst h; simp
  · have : (a == b) = false := by simpa using h
    rw [this, if_neg h]

section
variable {w : World} {A : Around} {env : Env} {σ : Sg}
theorem append_mu {g : Heap} {av : AV} {h : Heap} {s : Shared} {tk : Nat} {μ : Mu} {Da : Addr} {ys : List D} {v : Value} {d : D} {Q : Value → Shared → Prop} {E : Value → Shared → Prop} (st : S w g env av h σ ((Da, .list ys) :: μ)) (hv : At av h v d) (hz : ys.length ≤ sizeLine) (hD : ∀ mo, μ.lookup Da ≠ some mo)
    (k : ∀ h', Heap.SameBut Da h h' → S w g env av h' σ ((Da, .list (ys ++ [d])) :: μ) → Q .none (upd s h' tk)) : wpAny (model P0 w) A (call (.builtin "list.append") [.ref Da, v]) Q E (upd s h tk) := by
  obtain ⟨⟨vs, n, ho, hs⟩, _⟩ := st.mu Da (.list ys) (by rw [lookupM_cons, if_pos rfl])
  refine wpAny_list_append_plain (s := upd s h tk) (items := vs.toArray) ⟨n, ho⟩ (fun h' hp hsb => k h' hsb ?_) (by simpa [hs.length] using hz)
  obtain ⟨n', ho'⟩ := hp
  refine st.setMu (l := Da) (ds := ys) (ds' := ys ++ [d]) (vs' := vs ++ [v]) (n' := n') (by rw [lookupM_cons, if_pos rfl]) hsb (by simpa using ho') (hs.snoc hv) fun a mo q => ?_
  rw [lookupM_cons] at q
  split at q
  · rename_i e; cases q; exact .inl ⟨e, rfl⟩
  · rename_i e; exact .inr ⟨e, by rw [lookupM_cons, if_neg e]; exact q⟩

theorem body_emit {elt : Expr} {d : D} (he : ∀ μ, Ev w A env σ μ elt d) : Body w A env σ (fun acc => do let _ ← call (.builtin "list.append") [acc, ← eval elt env]) [d] := ⟨fun g av μ Da ys s h tk Q E st hz hD k => by
  refine wpAny_bind ((he _).run g av s h tk _ E st fun v h1 tk1 e1 a1 => ?_)
  refine wpAny_bind (append_mu (st.grow e1) a1 (by simp at hz; omega) hD fun h' hs st' => wpAny_pure ?_)
  exact k h' tk1 (fun a o na e => (hs.2 a fun q => na (by simp [q])).trans (e1 a o e)) st'⟩

/-- the turns of one clause -/
structure LoopOk (w : World) (A : Around) (env : Env) (σ : Sg) (e : Expr) (depth : Nat) (tup : Bool) (items outs : List D) : Prop where
  run : ∀ (g : Heap) (av : AV) (μ : Mu) (Da I : Addr) (wr : List Addr) (St : Nat → Heap → Prop) (ys : List D) (s : Shared) (h : Heap) (tk : Nat) (R : Result → Shared → Prop),
    It tup w A av I wr St items → St 0 h → S w g env av h σ ((Da, .list ys) :: μ) → ys.length + outs.length ≤ sizeLine → (∀ mo, μ.lookup Da ≠ some mo) →
    (∀ a ∈ wr, av a ∧ g.get? a = none ∧ a ≠ Da ∧ a ≠ env.locals ∧ (∀ y c, env.cells.lookup y = some c → c ≠ a) ∧ ∀ mo, μ.lookup a ≠ some mo) →
    (∀ h' tk', KeepBut (wr ++ [env.locals, Da]) h h' → S w g env (fun a => av a ∧ a ∉ wr) h' σ ((Da, .list (ys ++ outs)) :: μ) → R (.ok .next) (upd s h' tk')) →
    codeAny (model P0 w) A (.compLoop e depth (.ref I) (.ref Da) env) R (upd s h tk)

/-- out of the turns' list: what each item gives -/
def flat (f : D → List D) : List D → List D
  | [] => []
  | d :: ds => f d ++ flat f ds
theorem flat_append (f : D → List D) : ∀ a b : List D, flat f (a ++ b) = flat f a ++ flat f b
  | [], b => rfl
  | x :: a, b => by simp [flat, flat_append f a b]
theorem flat_take_succ (f : D → List D) (ds : List D) (i : Nat) (d : D) (h : ds[i]? = some d) : flat f (ds.take (i + 1)) = flat f (ds.take i) ++ f d := by
  rw [List.take_add_one, h, flat_append]; simp [flat]
theorem flat_take_le (f : D → List D) : ∀ (ds : List D) (i : Nat), (flat f (ds.take i)).length ≤ (flat f ds).length
  | [], i => by simp
  | d :: ds, 0 => by simp [flat]
  | d :: ds, i + 1 => by simp [flat]; exact flat_take_le f ds i

end
end
section

/-- what a comprehension's frame sees of the frame around it -/
structure Sees (env : Env) (scope : Scope) (cl : List (Str × Addr)) (σ σc : Sg) : Prop where
  names : ∀ x sv, σc.lookup x = some sv → σ.lookup x = some sv ∧ env.kindOf x = some .cell ∧ (relabel scope env).names.lookup x = some .cell ∧ ∃ c, cl.lookup x = some c
  cl : ∀ x c, cl.lookup x = some c → env.cells.lookup x = some c

section
variable {w : World} {A : Around} {env : Env} {σ σc : Sg}
theorem cenv_S {g : Heap} {av : AV} {h h' : Heap} {μ : Mu} {scope : Scope} {cl : List (Str × Addr)} {C Da : Addr} {av' : AV} (st : S w g env av h σ μ) (sees : Sees env scope cl σ σc) (hk : scope.kind = .function)
    (e : Ext h h') (hC : h'.Ns C fun _ => none) (nC : h.get? C = none) (nD : h.get? Da = none) (hCD : C ≠ Da) (hD : h'.get? Da = some (lstO [] 0))
    (up : ∀ a, av a → av' a) (aC : av' C) (aD : av' Da) (dom : ∀ a, av' a → ∃ o, h'.get? a = some o) (mo : ∀ a o, ¬ av a → h.get? a = some o → ¬ av' a ∧ h'.get? a = some o) :
    S w g (compEnvC scope cl C env) av' h' σc ((Da, .list []) :: μ) where
  base := st.base
  ext := st.ext.trans e
  kind := hk
  glob := st.glob
  blt := st.blt
  ns := ⟨_, hC, fun x sv q k => by
    have := (sees.names x sv q).2.2.1
    have k' : (relabel scope env).names.lookup x = some .local := k
    rw [this] at k'; cases k'⟩
  cells := fun x sv q _ => by
    obtain ⟨a, b, c, cc, d⟩ := sees.names x sv q
    obtain ⟨_, c', v, l, ic, ok⟩ := st.cells x sv a (by rw [b]; decide)
    have := sees.cl x cc d
    rw [l] at this; cases this
    exact ⟨c, cc, v, d, ic.keeps e, ok.mono mo⟩
  ownL := ⟨aC, by
    cases q : g.get? C with
    | none => exact q
    | some o => rw [st.ext _ _ q] at nC; cases nC⟩
  ownC := fun x c q => by
    obtain ⟨a, b, d, v, ic⟩ := st.ownC x c (sees.cl x c q)
    refine ⟨up _ a, b, fun r => ?_, v, ic.keeps e⟩
    obtain ⟨o, ho, _⟩ := ic
    have r' : c = C := r
    rw [r', nC] at ho; cases ho
  apart := fun x y c q r => st.apart x y c (sees.cl x c q) (sees.cl y c r)
  dom := dom
  mu := fun a mo' q => by
    rw [lookupM_cons] at q
    split at q
    · rename_i r; cases q; subst r
      refine ⟨⟨[], 0, hD, .nil⟩, aD, ?_, Ne.symm hCD, fun x c q r => ?_⟩
      · cases q : g.get? a with
        | none => rfl
        | some o => rw [st.ext _ _ q] at nD; cases nD
      · obtain ⟨_, _, _, v, o, ho, _⟩ := st.ownC x c (sees.cl x c q)
        rw [r, nD] at ho; cases ho
    · obtain ⟨b, c, d, f, k⟩ := st.mu a mo' q
      refine ⟨?_, up _ c, d, fun r => ?_, fun x cc r => k x cc (sees.cl x cc r)⟩
      · exact MO.holds_mono mo (fun o => e _ o) b
      · have r' : a = C := r
        obtain ⟨o, ho⟩ := MO.holds_some b; rw [r', nC] at ho; cases ho

theorem comp_core {g : Heap} {av : AV} {h0 h2 : Heap} {μ : Mu} {s : Shared} {tk : Nat} {E : Value → Shared → Prop} {scope : Scope} {cl : List (Str × Addr)} {I : Addr} {wr : List Addr} {tup : Bool} {items outs : List D} {elt target iter : Expr} {ifs : List Expr} {rest : List Comprehension} {pos : Pos}
    {RR : Value → Addr → Result → Shared → Prop} (st : S w g env av h0 σ μ) (sees : Sees env scope cl σ σc) (hcell : ∀ y ∈ scope.names, y.2 ≠ .cell) (hk : scope.kind = .function)
    (mk : ∀ av' : AV, (∀ a, av a → av' a) → (∀ a ∈ wr, av' a) → (∀ a, av' a → av a ∨ a ∈ wr ∨ h2.get? a = none) → ∃ St, It tup w A av' I wr St items ∧ St 0 h2)
    (e0 : Ext h0 h2) (hwr : ∀ a ∈ wr, h0.get? a = none ∧ ∃ o, h2.get? a = some o)
    (loop : ∀ C, LoopOk w A (compEnvC scope cl C env) σc (.ListComp elt (⟨target, iter, ifs, 0⟩ :: rest) scope pos) 0 tup items outs) (hz : outs.length ≤ sizeLine)
    (k : ∀ Da C h' tk' vs n m, h2.get? Da = none → h2.get? C = none → Da ≠ C → h'.get? Da = some (lstO vs n) → Ats (fun a => av a ∨ a = C) h' vs outs → h'.Ns C m → KeepBut wr h2 h' → RR (.ref Da) C (.ok .next) (upd s h' tk')) :
    wpAny (model P0 w) A (newList []) (fun acc s₃ => wpAny (model P0 w) A (newFunctionEnv scope env.globals cl [] env.qual none .none (some env)) (fun cenv s₄ =>
      codeAny (model P0 w) A (.compStart (.ListComp elt (⟨target, iter, ifs, 0⟩ :: rest) scope pos) 0 (.ref I) acc { cenv with scope := relabel scope env }) (RR acc cenv.locals) s₄) E s₃) E (upd s h2 tk) := by
  refine wpAny_newObj_type (s := upd s h2 tk) (wpAny_newFunctionEnv hcell (by intro y hy; simp at hy) (fun h₁ hns₁ hsb₁ => ?_) hk)
  simp only [upd_heap] at hns₁ hsb₁ ⊢
  generalize hH : h2.push { cls := .type "list", dict := none, data := .seq ([] : List Value).toArray } = H at hns₁ hsb₁ ⊢
  have hC : H.objs.size = h2.objs.size + 1 := by rw [← hH, Heap.size_push]
  have nD : h2.get? h2.objs.size = none := not_here h2
  have nC : h2.get? H.objs.size = none := by
    cases q : h2.get? H.objs.size with
    | none => rfl
    | some o => have := Heap.lt_size q; rw [hC] at this; exact absurd this (Nat.not_lt.mpr (Nat.le_succ _))
  have hDC : h2.objs.size ≠ H.objs.size := by rw [hC]; exact Nat.ne_of_lt (Nat.lt_succ_self _)
  have e2 : Ext h2 h₁ := fun b o q => (hsb₁.2 b fun r => by rw [r, nC] at q; cases q).trans (Heap.get?_push_of_some _ (hH ▸ Heap.get?_push_of_some _ q))
  have hD1 : h₁.get? h2.objs.size = some (lstO [] 0) := (hsb₁.2 _ hDC).trans (Heap.get?_push_of_some _ (hH ▸ Heap.get?_push_size _ rfl))
  -- the live addresses of the comprehension
  obtain ⟨av', hav⟩ : ∃ av' : AV, ∀ a, av' a ↔ (av a ∨ a ∈ wr ∨ a = H.objs.size ∨ a = h2.objs.size) := ⟨_, fun a => Iff.rfl⟩
  obtain ⟨St, it, st0⟩ := mk av' (fun a q => (hav a).mpr (.inl q)) (fun a q => (hav a).mpr (.inr (.inl q))) (fun a q => by
    rcases (hav a).mp q with q | q | q | q
    · exact .inl q
    · exact .inr (.inl q)
    · exact .inr (.inr (q ▸ nC))
    · exact .inr (.inr (q ▸ nD)))
  have st1 : St 0 h₁ := it.frame _ _ _ st0 fun a o _ r => e2 a o r
  have dom' : ∀ a, av' a → ∃ o, h₁.get? a = some o := fun a q => by
    rcases (hav a).mp q with q | q | q | q
    · obtain ⟨o, ho⟩ := st.dom a q; exact ⟨o, e2 _ _ (e0 _ _ ho)⟩
    · exact it.alive _ _ st1 a q
    · subst q; obtain ⟨o, _, _, ho, _⟩ := hns₁; exact ⟨o, ho⟩
    · subst q; exact ⟨_, hD1⟩
  have mo : ∀ a o, ¬ av a → h0.get? a = some o → ¬ av' a ∧ h₁.get? a = some o := fun a o n q => by
    refine ⟨fun r => ?_, e2 _ _ (e0 _ _ q)⟩
    rcases (hav a).mp r with r | r | r | r
    · exact n r
    · rw [(hwr a r).1] at q; cases q
    · have := e0 _ _ q; rw [r, nC] at this; cases this
    · have := e0 _ _ q; rw [r, nD] at this; cases this
  have wrC : ∀ a ∈ wr, a ≠ H.objs.size ∧ a ≠ h2.objs.size := fun a q => by
    obtain ⟨_, o, ho⟩ := hwr a q
    exact ⟨fun r => (by rw [r, nC] at ho; cases ho), fun r => (by rw [r, nD] at ho; cases ho)⟩
  have nav : ∀ a, h2.get? a = none → ¬ av a := fun a q r => by obtain ⟨o, ho⟩ := st.dom a r; rw [e0 _ _ ho] at q; cases q
  have S1 : S w g (compEnvC scope cl H.objs.size env) av' h₁ σc ((h2.objs.size, .list []) :: μ) :=
    cenv_S st sees hk (e0.trans e2) hns₁ (not_before e0 nC) (not_before e0 nD) (Ne.symm hDC) hD1 (fun a q => (hav a).mpr (.inl q)) ((hav _).mpr (.inr (.inr (.inl rfl)))) ((hav _).mpr (.inr (.inr (.inr rfl)))) dom' mo
  have wrav : ∀ a ∈ wr, ¬ av a := fun a q r => by obtain ⟨o, ho⟩ := st.dom a r; rw [(hwr a q).1] at ho; cases ho
  have main : codeAny (model P0 w) A (.compLoop (.ListComp elt (⟨target, iter, ifs, 0⟩ :: rest) scope pos) 0 (.ref I) (.ref h2.objs.size) (compEnvC scope cl H.objs.size env)) (RR (.ref h2.objs.size) H.objs.size) (upd s h₁ tk) := by
    refine (loop H.objs.size).run g av' μ h2.objs.size I wr St [] s h₁ tk _ it st1 S1 (by simpa using hz) ?_ ?_ ?_
    · intro mo' q; obtain ⟨_, r, _⟩ := st.mu _ _ q; exact nav _ nD r
    · intro a q
      refine ⟨(hav a).mpr (.inr (.inl q)), ?_, (wrC a q).2, (wrC a q).1, fun y c r t => ?_, fun mo' r => ?_⟩
      · cases r : g.get? a with
        | none => rfl
        | some o => have := st.ext _ _ r; rw [(hwr a q).1] at this; cases this
      · obtain ⟨r', _⟩ := st.ownC y c (sees.cl y c r); exact wrav a q (t ▸ r')
      · obtain ⟨_, r', _⟩ := st.mu _ _ r; exact wrav a q r'
    · intro h' tk' kb S2
      obtain ⟨⟨vs, n, ho, hs⟩, _⟩ := S2.mu h2.objs.size (.list ([] ++ outs)) (by rw [lookupM_cons, if_pos rfl])
      obtain ⟨m, hm, _⟩ := S2.ns
      refine k _ _ h' tk' vs n m nD nC hDC ho (hs.less fun a q => q.elim (fun q => ⟨(hav a).mpr (.inl q), fun r => wrav a r q⟩) fun q => ⟨(hav a).mpr (.inr (.inr (.inl q))), fun r => (wrC a r).1 q⟩) hm fun a o nq q => kb a o (fun r => ?_) (e2 _ _ q)
      rcases List.mem_append.mp r with r | r
      · exact nq r
      · rcases List.mem_cons.mp r with r | r
        · have r' : a = H.objs.size := r
          rw [r', nC] at q; cases q
        · rw [List.mem_singleton.mp r, nD] at q; cases q
  have fin : ∀ s', s' = upd s h₁ (tk + ([] : List (Str × Value)).length) → codeAny (model P0 w) A (.compLoop (.ListComp elt (⟨target, iter, ifs, 0⟩ :: rest) scope pos) 0 (.ref I) (.ref h2.objs.size) (compEnvC scope cl H.objs.size env)) (RR (.ref h2.objs.size) H.objs.size) s' := by
    rintro s' rfl; exact main
  exact codeAny_compStart_list (fin _ rfl) (it.again 0 s h₁ _ _ _ st1 (fin _ rfl))

theorem ev_comp {μ : Mu} {tup : Bool} {items outs : List D} {elt target iter : Expr} {ifs : List Expr} {rest : List Comprehension} {scope : Scope} {pos : Pos} {cl : List (Str × Addr)}
    (hsrc : Src tup w A env σ μ iter items) (hclos : closureFor scope env = pure cl) (sees : Sees env scope cl σ σc) (hcell : ∀ y ∈ scope.names, y.2 ≠ .cell) (hk : scope.kind = .function)
    (hnames : ∀ y ∈ scope.names, y.2 = .local → scope.names.lookup y.1 = some .local)
    (loop : ∀ C, LoopOk w A (compEnvC scope cl C env) σc (.ListComp elt (⟨target, iter, ifs, 0⟩ :: rest) scope pos) 0 tup items outs) (hz : outs.length ≤ sizeLine)
    (hs : ∀ x, foldedSetIterable iter env x = pure x := by intro _; rfl) : Ev w A env σ μ (.ListComp elt (⟨target, iter, ifs, 0⟩ :: rest) scope pos) (.list outs) := ⟨fun g av s h tk Q E st k => by
  rw [eval_ListComp]
  refine wpAny_comprehension_free (use := none) rfl hs hclos hk hnames ?_
  refine hsrc.run g av s h tk _ E st fun I wr h2 tk2 mk e0 hwr => ?_
  refine comp_core (RR := fun acc C => compPost (model P0 w) A E none Q acc C) st sees hcell hk mk e0 hwr loop hz fun Da C h' tk' vs n m nD nC hDC hD hs' hC kb => ?_
  refine ⟨m, hC, fun h'' sb => ?_⟩
  have nav : ¬ av Da := fun q => by obtain ⟨o, ho⟩ := st.dom Da q; rw [e0 _ _ ho] at nD; cases nD
  refine k _ h'' tk' (fun a o q => ?_) (.list (n := n) nav ((sb.2 _ hDC).trans hD) (hs'.mono fun a o na q => ⟨fun r => na (.inl r), (sb.2 a fun r => na (.inr r)).trans q⟩))
  have q2 := e0 _ _ q
  refine (sb.2 a fun r => ?_).trans (kb a o (fun r => ?_) q2)
  · rw [r, nC] at q2; cases q2
  · rw [(hwr a r).1] at q; cases q⟩

/-- a clause within a clause -/
theorem body_inner {e : Expr} {g' : Comprehension} {tup : Bool} {items outs : List D} (hsrc : ∀ μ, Src tup w A env σ μ g'.iter items) (loop : LoopOk w A env σ e 1 tup items outs) (ha : g'.is_async = 0)
    (hs : ∀ x, foldedSetIterable g'.iter env x = pure x)
    (hstart : ∀ it acc, (model P0 w).den (.compStart e 1 it acc env) = (do
      if (← ask).params.followText "comprehension-iter-twice" then again (.compLoop e 1 it acc env)
      else do
        rule "comprehension.iter-twice"
        standAt g'.iter.pos
        again (.compLoop e 1 (← pyIter it) acc env) : Sem Fin).onRaise fun x => do noteFrame x env; standAt theWindowsPlace)
    (hq : ∀ it acc, (Code.compLoop e 1 it acc env).quiet = true) (hu : ∀ it acc, A.under (.compStart e 1 it acc env) = A) :
    Body w A env σ (fun acc => do
        let x ← eval g'.iter env
        standAt g'.iter.pos
        let x ← if g'.is_async != 0 then foldedIterable g'.iter x else foldedSetIterable g'.iter env x
        let _ ← runOwn (.compStart e 1 (← holding [x] (if g'.is_async != 0 then asyncIter x else pyIter x)) acc env) env) outs := ⟨fun g av μ Da ys s h tk Q E st hz hD k => by
  simp only [ha, bne_self_eq_false, Bool.false_eq_true, if_false, hs]
  have main := (hsrc ((Da, .list ys) :: μ)).run g av s h tk (fun it s1 => wpAny (model P0 w) A (runOwn (.compStart e 1 it (.ref Da) env) env) (fun _ s' => Q s') E s1) E st fun I wr h2 tk2 mk e0 hwr => ?_
  · refine wpAny_bind (wpAny_mono main (fun x s1 hx => wpAny_bind (wpAny_standAt (wpAny_bind (wpAny_pure (wpAny_bind (wpAny_holding (wpAny_mono hx (fun it s2 h2 => wpAny_bind (wpAny_mono h2 (fun _ s3 h3 => wpAny_pure h3) fun _ _ z => z)) fun _ _ z => z))))))) fun _ _ z => z)
  refine wpAny_runOwn (codeAny_of_tree ?_)
  have am : A.mark none = A := by cases A; rfl
  rw [am, hu, hstart]
  -- the live addresses
  obtain ⟨St, it, st0⟩ := mk (fun a => av a ∨ a ∈ wr) (fun a q => .inl q) (fun a q => .inr q) (fun a q => q.imp id .inl)
  have wrav : ∀ a ∈ wr, ¬ av a := fun a q r => by obtain ⟨o, ho⟩ := st.dom a r; rw [(hwr a q).1] at ho; cases ho
  have S1 : S w g env (fun a => av a ∨ a ∈ wr) h2 σ ((Da, .list ys) :: μ) := st.live e0 (fun a q => .inl q) (fun a q => q.imp id fun q => (hwr a q).1) (fun a q => by
    rcases q with q | q
    · obtain ⟨o, ho⟩ := st.dom a q; exact ⟨o, e0 _ _ ho⟩
    · exact (hwr a q).2)
  have DaAv : av Da := (st.mu Da _ (by rw [lookupM_cons, if_pos rfl])).2.1
  have main2 : ∀ E' : Value → Shared → Prop, codeAny (model P0 w) A (.compLoop e 1 (.ref I) (.ref Da) env) (fun r s' => match r with | .ok f => Q s' | .error x => E' x s') (upd s h2 tk2) := fun E' => by
    refine loop.run g _ μ Da I wr St ys s h2 tk2 _ it st0 S1 hz hD ?_ ?_
    · intro a q
      refine ⟨.inr q, ?_, fun r => wrav a q (r ▸ DaAv), fun r => wrav a q (r ▸ st.ownL.1), fun y c r t => ?_, fun mo' r => ?_⟩
      · cases r : g.get? a with
        | none => rfl
        | some o => have := st.ext _ _ r; rw [(hwr a q).1] at this; cases this
      · exact wrav a q (t ▸ (st.ownC y c r).1)
      · by_cases e1 : a = Da
        · exact wrav a q (e1 ▸ DaAv)
        · exact wrav a q (st.mu a mo' (by rw [lookupM_cons, if_neg e1]; exact r)).2.1
    · intro h' tk' kb S2
      refine k h' tk' (fun a o n q => kb a o (fun r => ?_) (e0 _ _ q)) ?_
      · rcases List.mem_append.mp r with r | r
        · rw [(hwr a r).1] at q; cases q
        · exact n r
      · have e1 : (fun a => (av a ∨ a ∈ wr) ∧ a ∉ wr) = av := by
          funext a; apply propext
          exact ⟨fun q => q.1.elim id fun r => absurd r q.2, fun q => ⟨.inl q, fun r => wrav a r q⟩⟩
        rw [e1] at S2; exact S2
  refine wpAny_onRaise ?_
  refine wpAny_mono (Q := fun fin s' => match fin with | .done f => Q s' | .again c' => c'.quiet = true ∧ codeAny (model P0 w) A c' (fun r s' => match r with | .ok f => Q s' | .error e => cameBackBy (model P0 w) A env E e s') s') (E := fun _ _ => False) ?_ (fun fin s' z => by cases fin <;> exact z) (fun _ _ z => z.elim)
  refine wpAny_bind (wpAny_askSetting (wpAny_ite ?_))
  split
  · exact wpAny_pure ⟨hq _ _, main2 _⟩
  · refine wpAny_bind (wpAny_rule (wpAny_bind (wpAny_standAt (wpAny_bind (it.again 0 s h2 tk2 _ _ st0 (wpAny_pure ⟨hq _ _, main2 _⟩))))))⟩
end
end
section

theorem bindL_other {k : Str → Option NameKind} : ∀ (bs : List (Str × Value)) (m : Str → Option Value) (x : Str), x ∉ bs.map (·.1) → bindL k bs m x = m x
  | [], _, _, _ => rfl
  | (n, u) :: r, m, x, hx => by
    simp only [List.map_cons, List.mem_cons, not_or] at hx
    unfold bindL
    rw [bindL_other r _ x hx.2]
    split
    · simp [hx.1]
    · rfl
theorem bindL_get {k : Str → Option NameKind} : ∀ (bs : List (Str × Value)) (m : Str → Option Value) (x : Str) (v : Value), (bs.map (·.1)).Nodup → (x, v) ∈ bs → k x = some .local → bindL k bs m x = some v
  | (n, u) :: r, m, x, v, nd, hm, hk => by
    simp only [List.map_cons, List.nodup_cons] at nd
    unfold bindL
    rcases List.mem_cons.mp hm with e | hm
    · cases e
      rw [if_pos hk, bindL_other r _ _ nd.1]; simp
    · exact bindL_get r _ x v nd.2 hm hk
theorem bindC_other {k : Str → Option NameKind} : ∀ (bs : List (Str × Value)) (m : Str → Option Value) (x : Str), x ∉ bs.map (·.1) → bindC k bs m x = m x
  | [], _, _, _ => rfl
  | (n, u) :: r, m, x, hx => by
    simp only [List.map_cons, List.mem_cons, not_or] at hx
    unfold bindC
    rw [bindC_other r _ x hx.2]
    split
    · rfl
    · simp [hx.1]
theorem bindC_get {k : Str → Option NameKind} : ∀ (bs : List (Str × Value)) (m : Str → Option Value) (x : Str) (v : Value), (bs.map (·.1)).Nodup → (x, v) ∈ bs → k x ≠ some .local → bindC k bs m x = some v
  | (n, u) :: r, m, x, v, nd, hm, hk => by
    simp only [List.map_cons, List.nodup_cons] at nd
    unfold bindC
    rcases List.mem_cons.mp hm with e | hm
    · cases e
      rw [if_neg hk, bindC_other r _ _ nd.1]; simp
    · exact bindC_get r _ x v nd.2 hm hk

/-- the parameters with their data -/
def sg : List Str → List D → Sg
  | n :: ns, d :: ds => (n, .d d) :: sg ns ds
  | _, _ => []
theorem sg_get {av : AV} {h : Heap} : ∀ (ns : List Str) (vs : List Value) (ds : List D), Ats av h vs ds → ns.length = vs.length → ∀ x sv, (sg ns ds).lookup x = some sv → ∃ v, (x, v) ∈ ns.zip vs ∧ VOk av h v sv
  | [], _, _, _, _, x, sv, e => by simp [sg] at e
  | n :: ns, _, _, .nil, hl, _, _, _ => by cases hl
  | n :: ns, _, _, .cons (v := v) hv hs, hl, x, sv, e => by
    by_cases hx : x = n
    · subst hx
      simp only [sg] at e
      rw [lookup_cons_eq] at e; cases e
      exact ⟨v, by simp, hv⟩
    · simp only [sg] at e
      rw [lookup_cons_ne hx] at e
      obtain ⟨u, a, b⟩ := sg_get ns _ _ hs (by simpa using hl) x sv e
      exact ⟨u, by simp [a], b⟩

/-- how a def's body ends -/
def PostR (s : Shared) (g : Heap) (av : AV) (r : D) (fl : Flow) (s' : Shared) : Prop := ∃ h' tk', s' = upd s h' tk' ∧ Ext g h' ∧ At av h' (match fl with | .ret v => v | _ => .none) r

/-- statements, from a frame on -/
structure Go (w : World) (A : Around) (env : Env) (g : Heap) (av₀ : AV) (s : Shared) (Q : Flow → Shared → Prop) (σ : Sg) (μ : Mu) (sts : List Stmt) : Prop where
  run : ∀ (av : AV) (h : Heap) (tk : Nat), (∀ a, av₀ a → av a) → (∀ a mo, μ.lookup a = some mo → ¬ av₀ a) → S w g env av h σ μ → wpAny (model P0 w) A (execs sts env) Q (fun _ _ => False) (upd s h tk)

theorem fn_enter {w : World} {f : Addr} {n : Nat} {fd : FuncData} {oc : Value} {od : Option Addr} {osl : Array (Option Value)} {body : List Stmt} {ns : List Str} {ds : List D} {r : D}
    (hK : (Mine.hd.heap_1 w.params).lookup f = some ⟨oc, od, .func fd, osl⟩) (hcd : codeIn (Mine.hd.heap_1 w.params) fd.code fd.qualname = true) (hbody : fd.body = .stmts body) (hclo : fd.closure = [])
    (hbind : ∀ vs, vs.length = ds.length → bindArgs fd ⟨vs, []⟩ = pure (ns.zip vs)) (hl : ns.length = ds.length) (nd : ns.Nodup)
    (hkind : ∀ k : Nat, ∀ x ∈ ns, fd.scope.names.lookup x = some .local ∨ (fd.scope.names.lookup x = some .cell ∧ ((cellsFrom k fd.scope.names []).lookup x).isSome = true))
    (hgl : fd.globals = mainGlobals) (hbl : fd.builtins = builtinsNs)
    (hco : fd.scope.isCoroutine = false) (hgen : fd.scope.isGenerator = false) (hk : fd.scope.kind = .function)
    (walk : ∀ (A : Around) (L : Addr) (g : Heap) (av : AV) (s : Shared), AOk A n → Go w A (callEnvC fd L f) g av s (PostR s g av r) (sg ns ds) [] body) : Fn w f (n + 1) ds r := by
  refine ⟨?_⟩
  intro A av s h tk vs Q E hA B dom ats k
  have hvl : vs.length = ds.length := ats.length
  refine wpAny_call (codeAny_call_cells (s := upd s h tk) (vals := vs) (binds := ns.zip vs) hA.room (B.K f _ hK) rfl B.nolimit (codeRec_of B.K hcd) hbody (hbind vs hvl) hclo (fun x hx => ?_) (fun s₁ x => ?_) hco hgen hk)
  · exact hkind _ x.1 (List.of_mem_zip hx).1
  · have hL : (callEnvC fd h.objs.size f).locals = h.objs.size := rfl
    obtain ⟨h₁, tk₁, e₁⟩ := x.toInCall.same
    subst e₁
    have x : InCallC (upd s h tk) (callEnvC fd h.objs.size f).locals (bindL (callEnvC fd h.objs.size f).kindOf (ns.zip vs) fun _ => none) (callEnvC fd h.objs.size f).cells (bindC (callEnvC fd h.objs.size f).kindOf (ns.zip vs) fun _ => none) (upd s h₁ tk₁) := x
    have keep : Ext h h₁ := x.toInCall.keep
    obtain ⟨av', hav⟩ : ∃ av' : AV, ∀ a, av' a ↔ (av a ∨ a = h.objs.size ∨ ∃ y, (callEnvC fd h.objs.size f).cells.lookup y = some a) := ⟨_, fun a => Iff.rfl⟩
    have nL : h.get? h.objs.size = none := not_here h
    have cnew : ∀ y c, (callEnvC fd h.objs.size f).cells.lookup y = some c → h.get? c = none ∧ c ≠ h.objs.size := fun y c q => by
      have := x.above y c (PySem.mem_of_lookup q)
      rw [hL] at this
      refine ⟨?_, Nat.ne_of_gt this⟩
      cases r : h.get? c with
      | none => rfl
      | some o => exact absurd (Heap.lt_size r) (Nat.not_lt.mpr (Nat.le_of_lt this))
    have mo : ∀ a o, ¬ av a → h.get? a = some o → ¬ av' a ∧ h₁.get? a = some o := fun a o na q => by
      refine ⟨fun r => ?_, keep _ _ q⟩
      rcases (hav a).mp r with r | r | ⟨y, r⟩
      · exact na r
      · rw [r, nL] at q; cases q
      · rw [(cnew y a r).1] at q; cases q
    have ndz : ((ns.zip vs).map (·.1)).Nodup := by rw [List.map_fst_zip (by omega)]; exact nd
    have st : S w h (callEnvC fd h.objs.size f) av' h₁ (sg ns ds) [] := {
      base := B
      ext := keep
      kind := hk
      glob := hgl
      blt := hbl
      ns := ⟨_, x.toInCall.ns, fun y sv q kl => by
        obtain ⟨v, hm, ok⟩ := sg_get ns vs ds ats (by omega) y sv q
        exact ⟨v, bindL_get _ _ y v ndz hm kl, ok.mono mo⟩⟩
      cells := fun y sv q kl => by
        obtain ⟨v, hm, ok⟩ := sg_get ns vs ds ats (by omega) y sv q
        rcases hkind (h.objs.size + 1) y (List.of_mem_zip hm).1 with k1 | ⟨k1, k2⟩
        · exact absurd k1 kl
        · obtain ⟨c, hc⟩ := Option.isSome_iff_exists.mp k2
          have hc' : (callEnvC fd h.objs.size f).cells.lookup y = some c := hc
          refine ⟨k1, c, v, hc', ?_, ok.mono mo⟩
          have := x.cell y c hc'
          rw [bindC_get _ _ y v ndz hm kl] at this
          exact this
      ownL := ⟨(hav _).mpr (.inr (.inl rfl)), nL⟩
      ownC := fun y c q => ⟨(hav _).mpr (.inr (.inr ⟨y, q⟩)), (cnew y c q).1, (cnew y c q).2, _, x.cell y c q⟩
      apart := fun y z c q r => name_of_addr x.apart (PySem.mem_of_lookup q) (PySem.mem_of_lookup r)
      dom := fun a q => by
        rcases (hav a).mp q with q | q | ⟨y, q⟩
        · obtain ⟨o, ho⟩ := dom a q; exact ⟨o, keep _ _ ho⟩
        · subst q; obtain ⟨o, _, _, ho, _⟩ := x.toInCall.ns; exact ⟨o, ho⟩
        · obtain ⟨o, ho, _⟩ := x.cell y a q; exact ⟨o, ho⟩
      mu := fun a mo q => by simp at q }
    refine wpAny_mono ((walk (A.deeper _) _ h av s (hA.deeper _)).run av' h₁ tk₁ (fun a q => (hav a).mpr (.inl q)) (fun a mo q => by simp at q) st) (fun fl s' z => ?_) fun _ _ z => z.elim
    obtain ⟨h', tk', rfl, e, a⟩ := z
    exact k _ h' tk' e a
end
section

/-- an expression that makes a list of its own -/
structure EvN (w : World) (A : Around) (env : Env) (σ : Sg) (μ : Mu) (e : Expr) (ds : List D) : Prop where
  run : ∀ (g : Heap) (av : AV) (s : Shared) (h : Heap) (tk : Nat) (Q : Value → Shared → Prop) (E : Value → Shared → Prop), S w g env av h σ μ →
    (∀ a vs n h' tk', Ext h h' → h.get? a = none → h'.get? a = some (lstO vs n) → Ats (fun b => av b ∨ b = a) h' vs ds → Q (.ref a) (upd s h' tk')) → wpAny (model P0 w) A (eval e env) Q E (upd s h tk)
section
variable {w : World} {A : Around} {env : Env} {σ : Sg} {μ : Mu}
theorem ats_new {av : AV} {h : Heap} {vs : List Value} {ds : List D} (x : Ats av h vs ds) (o : Obj) : Ats (fun b => av b ∨ b = h.objs.size) (h.push o) vs ds :=
  (x.more (av' := fun b => av b ∨ b = h.objs.size) fun b q => q.imp id fun (q : b = h.objs.size) => q ▸ not_here h).ext (Ext.push h o)
theorem evn_list {es : List Expr} {p : Pos} {ds : List D} (ha : Args w A env σ μ es ds) (hz : ds.length ≤ sizeLine := by simp [sizeLine]) : EvN w A env σ μ (.List es p) ds := ⟨fun g av s h tk Q E st k =>
  wpAny_List (ha.run g av s h tk p _ E st fun vs h1 tk1 e1 a1 => ⟨by rw [a1.length]; exact hz, k _ vs 0 (h1.push _) tk1 (e1.trans (Ext.push _ _)) (not_before e1 (not_here h1)) (Heap.get?_push_size _ rfl) (ats_new a1 _)⟩)⟩
theorem evn_add {l r : Expr} {p : Pos} {xs ys : List D} (hl : EvT w A env σ μ l (.list xs)) (hr : EvT w A env σ μ r (.list ys)) (hz : xs.length + ys.length ≤ sizeLine) : EvN w A env σ μ (.BinOp l .Add r p) (xs ++ ys) :=
  ⟨fun g av s h tk Q E st k => wpAny_BinOp (hl.run g av s h tk _ E st fun u h1 tk1 e1 a1 => hr.run g av s h1 tk1 _ E (st.grow e1) fun v h2 tk2 e2 a2 => by
    obtain ⟨a, vs, n, rfl, o1, s1⟩ := (a1.ext e2).list; obtain ⟨b, us, m, rfl, o2, s2⟩ := a2.list
    refine PySem.P.add_list (s := upd s h2 tk2) (items := vs.toArray) (items2 := us.toArray) o1 o2 ?_ (by simp [s1.length, s2.length, hz])
    refine k _ (vs ++ us) 0 (h2.push _) tk2 ((e1.trans e2).trans (Ext.push _ _)) (not_before (e1.trans e2) (not_here h2)) ?_ (ats_new (s1.append s2) _)
    rw [show (upd s h2 tk2).heap = h2 from rfl]
    simpa using Heap.get?_push_size h2 (o := { cls := .type "list", data := .seq (vs.toArray ++ us.toArray) }) rfl)⟩

/-- a new list, owned -/
theorem S.own {g : Heap} {av : AV} {h h' : Heap} {l : Addr} {ds : List D} {vs : List Value} {n : Nat} (x : S w g env av h σ μ) (e : Ext h h') (hn : h.get? l = none) (ho : h'.get? l = some (lstO vs n)) (hv : Ats (fun b => av b ∨ b = l) h' vs ds) :
    S w g env (fun b => av b ∨ b = l) h' σ ((l, .list ds) :: μ) := by
  have y : S w g env (fun b => av b ∨ b = l) h' σ μ := x.live e (fun a q => .inl q) (fun a q => q.imp id fun (q : a = l) => q ▸ hn) (fun a q => by
    rcases q with q | q
    · obtain ⟨o, ho⟩ := x.dom a q; exact ⟨o, e _ _ ho⟩
    · subst q; exact ⟨_, ho⟩)
  have nav : ¬ av l := fun q => by obtain ⟨o, ho⟩ := x.dom l q; rw [hn] at ho; cases ho
  exact { y with
    mu := fun a mo q => by
      rw [lookupM_cons] at q
      split at q
      · rename_i r; cases q; subst r
        refine ⟨⟨vs, n, ho, hv⟩, .inr rfl, ?_, fun r => nav (r ▸ x.ownL.1), fun z c q r => nav (r ▸ (x.ownC z c q).1)⟩
        cases q : g.get? a with
        | none => rfl
        | some o => rw [x.ext _ _ q] at hn; cases hn
      · exact y.mu a mo q }
theorem S.weakMu {g : Heap} {av : AV} {h : Heap} {μ' : Mu} (x : S w g env av h σ μ) (hs : ∀ a mo, μ'.lookup a = some mo → μ.lookup a = some mo) : S w g env av h σ μ' :=
  { x with mu := fun a mo q => x.mu a mo (hs a mo q) }
/-- a mutable list is not changed again -/
theorem S.freeze {g : Heap} {av : AV} {h : Heap} {μ' : Mu} {n : Str} {l : Addr} {ds : List D} (x : S w g env av h σ μ) (hl : σ.lookup n = some (.m l)) (hm : μ.lookup l = some (.list ds)) (hs : ∀ a mo, μ'.lookup a = some mo → a ≠ l ∧ μ.lookup a = some mo) :
    S w g env (fun b => av b ∧ b ≠ l) h ((n, .d (.list ds)) :: σ) μ' := by
  obtain ⟨⟨vs, k, ho, hv⟩, al, gl, nL, nC⟩ := x.mu l _ hm
  have y : S w g env (fun b => av b ∧ b ≠ l) h σ μ' := (x.weakMu fun a mo q => (hs a mo q).2).less (fun a q => q.1) ⟨x.ownL.1, fun r => nL r.symm⟩ (fun z c q => ⟨(x.ownC z c q).1, nC z c q⟩) (fun a mo q => ⟨(x.mu a mo (hs a mo q).2).2.1, (hs a mo q).1⟩)
  have here : At (fun b => av b ∧ b ≠ l) h (.ref l) (.list ds) := .list (fun q => q.2 rfl) ho (hv.less fun a q => q.1)
  exact { y with
    ns := by
      obtain ⟨m, a, b⟩ := y.ns
      refine ⟨m, a, fun z sv q k => ?_⟩
      by_cases hz : z = n
      · subst hz
        rw [lookup_cons_eq] at q; cases q
        obtain ⟨v, c, d⟩ := b z (.m l) hl k
        exact ⟨v, c, by cases d; exact here⟩
      · rw [lookup_cons_ne hz] at q; exact b z sv q k
    cells := fun z sv q k => by
      by_cases hz : z = n
      · subst hz
        rw [lookup_cons_eq] at q; cases q
        obtain ⟨k1, c, v, l1, ic, d⟩ := y.cells z (.m l) hl k
        exact ⟨k1, c, v, l1, ic, by cases d; exact here⟩
      · rw [lookup_cons_ne hz] at q; exact y.cells z sv q k }

variable {g : Heap} {av₀ : AV} {s : Shared} {Q : Flow → Shared → Prop} {rest : List Stmt}
abbrev OffMu (av₀ : AV) (μ : Mu) : Prop := ∀ a mo, μ.lookup a = some mo → ¬ av₀ a
theorem go_weak {σ' : Sg} {μ' : Mu} {sts : List Stmt} (h1 : ∀ x sv, σ'.lookup x = some sv → σ.lookup x = some sv) (h2 : ∀ a mo, μ'.lookup a = some mo → μ.lookup a = some mo) (k : Go w A env g av₀ s Q σ' μ' sts) : Go w A env g av₀ s Q σ μ sts :=
  ⟨fun av h tk up om st => k.run av h tk up (fun a mo q => om a mo (h2 a mo q)) ((st.weak h1).weakMu h2)⟩
theorem go_nil (k : ∀ av h tk, (∀ a, av₀ a → av a) → OffMu av₀ μ → S w g env av h σ μ → Q .next (upd s h tk)) : Go w A env g av₀ s Q σ μ [] :=
  ⟨fun av h tk up om st => wpAny_execs_nil (k av h tk up om st)⟩
theorem go_freeze {n : Str} {l : Addr} {ds : List D} {μ' : Mu} {sts : List Stmt} (hl : σ.lookup n = some (.m l)) (hm : μ.lookup l = some (.list ds)) (hs : ∀ a mo, μ'.lookup a = some mo → a ≠ l ∧ μ.lookup a = some mo)
    (k : Go w A env g av₀ s Q ((n, .d (.list ds)) :: σ) μ' sts) : Go w A env g av₀ s Q σ μ sts :=
  ⟨fun av h tk up om st => k.run _ h tk (fun a q => ⟨up a q, fun r => om l _ hm (r ▸ q)⟩) (fun a mo q => om a mo (hs a mo q).2) (st.freeze hl hm hs)⟩
theorem go_assign {x : Str} {px pos : Pos} {value : Expr} {d : D} (hv : Ev w A env σ μ value d) (hx : Storable env x) (k : Go w A env g av₀ s Q ((x, .d d) :: σ) μ rest)
    (hs : swapsWith value (some (.Name x px)) pos.line env = pure false := by rfl) : Go w A env g av₀ s Q σ μ (.Assign [.Name x px] value pos :: rest) := ⟨fun av h tk up om st =>
  wpAny_execs_cons (wpAny_Assign_Name (hv.run g av s h tk _ _ st fun v h1 tk1 e1 a1 => st_name (sv := .d d) (st.grow e1) a1 hx fun h2 tk2 st2 _ => k.run av h2 tk2 up om st2) hs)⟩
theorem go_new {x : Str} {px pos : Pos} {value : Expr} {ds : List D} (hv : EvN w A env σ μ value ds) (hx : Storable env x) (k : ∀ l, (∀ mo, μ.lookup l ≠ some mo) → Go w A env g av₀ s Q ((x, .m l) :: σ) ((l, .list ds) :: μ) rest)
    (hs : swapsWith value (some (.Name x px)) pos.line env = pure false := by rfl) : Go w A env g av₀ s Q σ μ (.Assign [.Name x px] value pos :: rest) := ⟨fun av h tk up om st =>
  wpAny_execs_cons (wpAny_Assign_Name (hv.run g av s h tk _ _ st fun l vs n h1 tk1 e1 n1 o1 a1 => st_name (sv := .m l) (st.own e1 n1 o1 a1) rfl hx fun h2 tk2 st2 _ => by
    have nav : ¬ av l := fun q => by obtain ⟨o, ho⟩ := st.dom l q; rw [n1] at ho; cases ho
    refine (k l (fun mo q => nav (st.mu l mo q).2.1)).run _ h2 tk2 (fun a q => .inl (up a q)) (fun a mo q => ?_) st2
    rw [lookupM_cons] at q
    split at q
    · rename_i r; exact fun t => nav (up l (r ▸ t))
    · exact om a mo q) hs)⟩
theorem go_unpack {elts : List Expr} {k₀ : Nat} {tp pos : Pos} {value : Expr} {d : D} {σ' : Sg} (hv : Ev w A env σ μ value d) (hb : Bind w A env σ (.Tuple elts k₀ tp) d σ') (k : Go w A env g av₀ s Q σ' μ rest)
    (hs : swapsWithSole [.Tuple elts k₀ tp] value pos.line env = pure false := by rfl) (hw : swappedStores [.Tuple elts k₀ tp] value env = pure none := by rfl) : Go w A env g av₀ s Q σ μ (.Assign [.Tuple elts k₀ tp] value pos :: rest) := ⟨fun av h tk up om st =>
  wpAny_execs_cons (Assign_Tuple (hv.run g av s h tk _ _ st fun v h1 tk1 e1 a1 => hb.run g av μ s h1 tk1 v _ _ (st.grow e1) a1 fun h2 tk2 st2 => k.run av h2 tk2 up om st2) hs hw)⟩
theorem wp_app {M : Model} {Γ : Ctx} {E : Value → Pos → Shared → Prop} : ∀ (a b : List Stmt) (p : Pos) (s : Shared) (Q : Flow → Pos → Shared → Prop),
    Sem.wp M Γ (execs (a ++ b) env) Q E p s = Sem.wp M Γ (execs a env) (fun f p' s' => match f with | .next => Sem.wp M Γ (execs b env) Q E p' s' | f => Q f p' s') E p s
  | [], b, p, s, Q => by rw [List.nil_append, execs_nil, Sem.wp_pure']
  | x :: a, b, p, s, Q => by
    rw [List.cons_append, execs_cons, execs_cons, Sem.wp_bind', Sem.wp_bind']
    congr 1
    funext f p' s'
    cases f with
    | next => exact wp_app a b p' s' Q
    | _ => rfl
theorem wpAny_If_app {M : Model} {A : Around} {E : Value → Shared → Prop} {s : Shared} {test : Expr} {body orelse rest : List Stmt} {pos : Pos} {Q : Flow → Shared → Prop}
    (h : wpAny M A (isTrue test env (eval test env)) (fun b s₂ => wpAny M A (execs ((if b then body else orelse) ++ rest) env) Q E s₂) E s) : wpAny M A (execs (.If test body orelse pos :: rest) env) Q E s := fun Γ p hΓ => by
  rw [execs_cons, Sem.wp_bind', exec_If]
  simp only [Sem.wp_bind', Sem.wp_cmd_standAt]
  refine Sem.wp_mono M Γ _ (fun b p₂ s₂ h₂ => ?_) (fun _ _ _ h' => h') _ _ (h Γ _ hΓ)
  have := h₂ Γ p₂ hΓ
  rw [wp_app] at this
  cases b with
  | true => exact Sem.wp_mono M Γ _ (fun f p₃ s₃ h₃ => by cases f <;> exact h₃) (fun _ _ _ h' => h') _ _ this
  | false => exact Sem.wp_mono M Γ _ (fun f p₃ s₃ h₃ => by cases f <;> exact h₃) (fun _ _ _ h' => h') _ _ this
theorem go_if {test : Expr} {body orelse : List Stmt} {pos : Pos} {b : Bool} (ht : Tr w A env σ μ test b) (k1 : b = true → Go w A env g av₀ s Q σ μ (body ++ rest)) (k2 : b = false → Go w A env g av₀ s Q σ μ (orelse ++ rest)) :
    Go w A env g av₀ s Q σ μ (.If test body orelse pos :: rest) := ⟨fun av h tk up om st =>
  wpAny_If_app (ht.run g av s h tk _ _ st fun h1 tk1 e1 => by
    cases b with
    | true => exact (k1 rfl).run av h1 tk1 up om (st.grow e1)
    | false => exact (k2 rfl).run av h1 tk1 up om (st.grow e1))⟩
theorem go_ret {e : Expr} {pos : Pos} {d : D} (he : Ev w A env σ μ e d) (k : ∀ v h' tk', Ext g h' → At av₀ h' v d → Q (.ret v) (upd s h' tk')) : Go w A env g av₀ s Q σ μ (.Return (some e) pos :: rest) := ⟨fun av h tk up om st =>
  wpAny_execs_cons (wpAny_Return_some (he.run g av s h tk _ _ st fun v h1 tk1 e1 a1 => k v h1 tk1 (st.ext.trans e1) (a1.less up)))⟩
theorem go_retR {e : Expr} {pos : Pos} {d : D} (he : Ev w A env σ μ e d) : Go w A env g av₀ s (PostR s g av₀ d) σ μ (.Return (some e) pos :: rest) :=
  go_ret he fun v h' tk' e a => ⟨h', tk', rfl, e, a⟩
theorem go_retM {x : Str} {px pos : Pos} {l : Addr} {ds : List D} (hl : σ.lookup x = some (.m l)) (hm : μ.lookup l = some (.list ds)) (hd : (x == ("__debug__" : Str)) = false := by decide) : Go w A env g av₀ s (PostR s g av₀ (.list ds)) σ μ (.Return (some (.Name x px)) pos :: rest) := ⟨fun av h tk up om st =>
  wpAny_execs_cons (wpAny_Return_some (wpAny_Name (ld_name st hl fun v hv => by
    subst hv
    obtain ⟨⟨vs, n, ho, hs⟩, _⟩ := st.mu l _ hm
    exact ⟨h, tk, rfl, st.ext, .list (om l _ hm) ho (hs.less up)⟩) hd))⟩
theorem go_brk {pos : Pos} (k : ∀ av h tk, (∀ a, av₀ a → av a) → OffMu av₀ μ → S w g env av h σ μ → Q .brk (upd s h tk)) : Go w A env g av₀ s Q σ μ (.Break pos :: rest) :=
  ⟨fun av h tk up om st => wpAny_execs_cons (wpAny_Break (k av h tk up om st))⟩
theorem go_cont {pos : Pos} (k : ∀ av h tk, (∀ a, av₀ a → av a) → OffMu av₀ μ → S w g env av h σ μ → Q .cont (upd s h tk)) : Go w A env g av₀ s Q σ μ (.Continue pos :: rest) :=
  ⟨fun av h tk up om st => wpAny_execs_cons (wpAny_Continue (k av h tk up om st))⟩
end
end
section

/-! lists of ints | of texts -/
theorem ints_vals {av : AV} {h : Heap} : ∀ {vs : List Value} {ns : List Int}, Ats av h vs (ns.map D.int) → ∃ xs : List (Int × Tok), vs = xs.map (fun p => Value.int p.1 p.2) ∧ xs.map (·.1) = ns
  | [], [], _ => ⟨[], rfl, rfl⟩
  | _, [], .nil => ⟨[], rfl, rfl⟩
  | _, n :: ns, .cons hv hs => by
    obtain ⟨xs, e1, e2⟩ := ints_vals (ns := ns) hs
    cases hv with
    | int i t => exact ⟨(n, t) :: xs, by simp [e1], by simp [e2]⟩
theorem strs_vals {av : AV} {h : Heap} : ∀ {vs : List Value} {ns : List Str}, Ats av h vs (ns.map D.str) → ∃ xs : List (Str × Tok), vs = strValues xs ∧ xs.map (·.1) = ns
  | [], [], _ => ⟨[], rfl, rfl⟩
  | _, [], .nil => ⟨[], rfl, rfl⟩
  | _, n :: ns, .cons hv hs => by
    obtain ⟨xs, e1, e2⟩ := strs_vals (ns := ns) hs
    cases hv with
    | str i t => exact ⟨(n, t) :: xs, by simp [e1, strValues], by simp [e2]⟩

section
variable {w : World} {A : Around}
/-- a text, repeated -/
def repS (x : Str) (n : Int) : Str := ⟨(List.replicate n.toNat x.cps).foldl (· ++ ·) #[]⟩
theorem foldl_rep : ∀ (n : Nat) (a b : Array Nat), (List.replicate n a).foldl (· ++ ·) b = b ++ (List.replicate n a).foldl (· ++ ·) #[]
  | 0, _, b => by simp
  | n + 1, a, b => by
    simp only [List.replicate_succ, List.foldl_cons, Array.empty_append]
    rw [foldl_rep n a (b ++ a), foldl_rep n a a, Array.append_assoc]
theorem repS_toList (x : Str) : ∀ n : Nat, ((List.replicate n x.cps).foldl (· ++ ·) #[]).toList = (List.replicate n x.cps.toList).flatten
  | 0 => rfl
  | n + 1 => by
    simp only [List.replicate_succ, List.foldl_cons, Array.empty_append, List.flatten_cons]
    rw [foldl_rep, Array.toList_append, repS_toList x n]
theorem repS_length (x : Str) (n : Int) : (repS x n).length = x.length * n.toNat := by
  show ((List.replicate n.toNat x.cps).foldl (· ++ ·) #[]).size = x.cps.size * n.toNat
  rw [← Array.length_toList, repS_toList]
  simp [Nat.mul_comm]
theorem op_repS {x : Str} {n : Int} (h0 : -(2 ^ 63) ≤ n) (h1 : n < 2 ^ 63) (hz : x.length * n.toNat ≤ sizeLine) : OpD w A .Mult (.str x) (.int n) (.str (repS x n)) := ⟨fun av s h tk u v Q E dm a b k => by
  obtain ⟨t, rfl⟩ := a.str; obtain ⟨t', rfl⟩ := b.int
  rw [sizeLine_eq] at hz
  refine PySem.P.mul_str (s := upd s h tk) ?_ ?_ ?_ ?_
  · simp only [Bool.or_eq_false_iff, decide_eq_false_iff_not]; omega
  · intro h2 _ h3
    have hn : n = ((n.toNat : Nat) : Int) := by omega
    have h4 : (x.length : Int) * n ≤ 2 ^ 24 := by rw [hn]; exact_mod_cast hz
    have h5 : (2 ^ 63 - 1) / n * n ≤ 2 ^ 63 - 1 := Int.ediv_mul_le _ (by omega)
    have h6 : ((2 ^ 63 - 1) / n + 1) * n ≤ (x.length : Int) * n := Int.mul_le_mul_of_nonneg_right (by omega) (by omega)
    have h7 : 2 ^ 63 - 1 < ((2 ^ 63 - 1) / n + 1) * n := Int.lt_ediv_add_one_mul_self _ (by omega)
    omega
  · intro _ _
    show decide (x.length * n.toNat > sizeLine) = false
    rw [decide_eq_false_iff_not, sizeLine_eq]; omega
  · split
    · rename_i hn
      have e : repS x n = Str.empty := by
        have : n.toNat = 0 := by omega
        unfold repS; rw [this]; rfl
      refine ⟨by decide, ?_⟩
      have := k (.str (repS x n) tk) h (tk + 1) (Ext.refl h) (.str _ _)
      rw [e] at this; exact this
    · split
      · rename_i hn h1
        have e : repS x n = x := by
          rcases Bool.or_eq_true_iff.mp h1 with q | q
          · have : n = 1 := by simpa using q
            subst this
            unfold repS
            show Str.mk ((List.replicate 1 x.cps).foldl (· ++ ·) #[]) = x
            simp
          · have q : x.cps.size = 0 := beq_iff_eq.mp q
            have : (repS x n).length = 0 := by rw [repS_length]; show x.cps.size * _ = 0; rw [q]; simp
            have h2 : (repS x n).cps = #[] := Array.eq_empty_of_size_eq_zero this
            have h3 : x.cps = #[] := Array.eq_empty_of_size_eq_zero q
            have st : ∀ a b : Str, a.cps = #[] → b.cps = #[] → a = b := by intro a b ha hb; cases a; cases b; simp_all
            exact st _ _ h2 h3
        have := k (.str (repS x n) t) h tk (Ext.refl h) (.str _ _)
        rw [e] at this; exact this
      · refine ⟨?_, k (.str (repS x n) tk) h (tk + 1) (Ext.refl h) (.str _ _)⟩
        show (repS x n).length ≤ sizeLine
        rw [repS_length, sizeLine_eq]; exact hz⟩

theorem call_lenL {ds : List D} (hz : ds.length ≤ sizeLine) : CallD w A (.builtin "len") [.list ds] (.int ds.length) := ⟨fun av s h tk vs Q E B dom a k => by
  obtain ⟨v, rfl, x⟩ := a.one
  obtain ⟨l, us, n, rfl, ho, hs⟩ := x.list
  rw [sizeLine_eq] at hz
  have e := hs.length
  refine call_len_list (s := upd s h tk) (items := us.toArray) ⟨_, ho, rfl, n, rfl⟩ (by simp; omega) ?_
  have e2 : us.toArray.size = ds.length := by simpa using e
  rw [e2]; exact k _ h _ (Ext.refl h) (.int _ _)⟩
theorem call_lenT {ds : List D} (hz : ds.length ≤ sizeLine) : CallD w A (.builtin "len") [.tuple ds] (.int ds.length) := ⟨fun av s h tk vs Q E B dom a k => by
  obtain ⟨v, rfl, x⟩ := a.one
  obtain ⟨l, us, n, rfl, _, ho, hs⟩ := x.tuple
  rw [sizeLine_eq] at hz
  have e := hs.length
  refine PySem.P.len_tuple (s := upd s h tk) (items := us.toArray) (n := n) ho (by simp; omega) ?_
  have e2 : us.toArray.size = ds.length := by simpa using e
  rw [e2]; exact k _ h _ (Ext.refl h) (.int _ _)⟩
theorem call_tupleL {ds : List D} (hz : ds.length ≤ sizeLine) : CallD w A (.type "tuple") [.list ds] (.tuple ds) := ⟨fun av s h tk vs Q E B dom a k => by
  obtain ⟨v, rfl, x⟩ := a.one
  obtain ⟨l, us, n, rfl, ho, hs⟩ := x.list
  refine call_tuple_list (s := upd s h tk) (items := us.toArray) ⟨_, ho, rfl, n, rfl⟩ (fun h' e => ?_) (by simpa [hs.length] using hz)
  have e' : Ext h h' := e
  refine k _ (h'.push _) tk (e'.trans (Ext.push _ _)) (.tuple (vs := us) (n := 0) (fun q => ?_) (Heap.get?_push_size _ rfl) (hs.ext (e'.trans (Ext.push _ _))))
  obtain ⟨o, ho⟩ := dom _ q; exact Nat.lt_irrefl _ (Heap.lt_size (e' _ _ ho))⟩
theorem call_max2 (hh : A.handled = none) {i j : Int} : CallD w A (.builtin "max") [.int i, .int j] (.int (max i j)) := ⟨fun av s h tk vs Q E B dom a k => by
  obtain ⟨v, u, rfl, x, y⟩ := a.two
  obtain ⟨t, rfl⟩ := x.int; obtain ⟨t', rfl⟩ := y.int
  refine max_two_ints (s := upd s h tk) hh fun h' tk' e => k _ h' tk' e ?_
  split
  · rw [show max i j = j from by omega]; exact .int _ _
  · rw [show max i j = i from by omega]; exact .int _ _⟩

theorem itemsArr (xs : List (Int × Tok)) : (xs.map (fun p => Value.int p.1 p.2)).toArray = intItems xs.toArray := by simp [intItems]
/-- the least | the greatest of a list, as the builtins find them -/
def minL : List Int → Int
  | [] => 0
  | [x] => x
  | x :: r => min x (minL r)
def maxL : List Int → Int
  | [] => 0
  | [x] => x
  | x :: r => max x (maxL r)
theorem minL_spec : ∀ (l : List Int), l ≠ [] → minL l ∈ l ∧ ∀ y ∈ l, minL l ≤ y
  | [x], _ => ⟨by simp [minL], by simp [minL]⟩
  | x :: y :: r, _ => by
    obtain ⟨a, b⟩ := minL_spec (y :: r) (by simp)
    show min x (minL (y :: r)) ∈ _ ∧ _
    refine ⟨?_, ?_⟩
    · rcases Int.le_total x (minL (y :: r)) with q | q
      · rw [show min x (minL (y :: r)) = x from by omega]; simp
      · rw [show min x (minL (y :: r)) = minL (y :: r) from by omega]; exact .tail _ a
    · intro z hz
      show min x (minL (y :: r)) ≤ z
      rcases List.mem_cons.mp hz with rfl | hz
      · omega
      · have := b z hz; omega
theorem maxL_spec : ∀ (l : List Int), l ≠ [] → maxL l ∈ l ∧ ∀ y ∈ l, y ≤ maxL l
  | [x], _ => ⟨by simp [maxL], by simp [maxL]⟩
  | x :: y :: r, _ => by
    obtain ⟨a, b⟩ := maxL_spec (y :: r) (by simp)
    show max x (maxL (y :: r)) ∈ _ ∧ _
    refine ⟨?_, ?_⟩
    · rcases Int.le_total x (maxL (y :: r)) with q | q
      · rw [show max x (maxL (y :: r)) = maxL (y :: r) from by omega]; exact .tail _ a
      · rw [show max x (maxL (y :: r)) = x from by omega]; simp
    · intro z hz
      show z ≤ max x (maxL (y :: r))
      rcases List.mem_cons.mp hz with rfl | hz
      · omega
      · have := b z hz; omega
theorem argBest_min (f : Nat → Int) : ∀ n, argBest (fun i j => decide (f i < f j)) n ≤ n ∧ ∀ j, j ≤ n → f (argBest (fun i j => decide (f i < f j)) n) ≤ f j
  | 0 => ⟨by simp [argBest], fun j hj => by cases Nat.le_zero.mp hj; simp [argBest]⟩
  | n + 1 => by
    obtain ⟨a, b⟩ := argBest_min f n
    by_cases h : f (n + 1) < f (argBest (fun i j => decide (f i < f j)) n)
    · have e : argBest (fun i j => decide (f i < f j)) (n + 1) = n + 1 := by simp [argBest, h]
      rw [e]
      exact ⟨Nat.le_refl _, fun j hj => by
        rcases Nat.lt_or_eq_of_le hj with q | q
        · have := b j (by omega); omega
        · subst q; exact Int.le_refl _⟩
    · have e : argBest (fun i j => decide (f i < f j)) (n + 1) = argBest (fun i j => decide (f i < f j)) n := by simp [argBest, h]
      rw [e]
      exact ⟨by omega, fun j hj => by
        rcases Nat.lt_or_eq_of_le hj with q | q
        · exact b j (by omega)
        · subst q; omega⟩
theorem argBest_max (f : Nat → Int) : ∀ n, argBest (fun i j => decide (f i > f j)) n ≤ n ∧ ∀ j, j ≤ n → f j ≤ f (argBest (fun i j => decide (f i > f j)) n)
  | 0 => ⟨by simp [argBest], fun j hj => by cases Nat.le_zero.mp hj; simp [argBest]⟩
  | n + 1 => by
    obtain ⟨a, b⟩ := argBest_max f n
    by_cases h : f (n + 1) > f (argBest (fun i j => decide (f i > f j)) n)
    · have e : argBest (fun i j => decide (f i > f j)) (n + 1) = n + 1 := by simp [argBest, h]
      rw [e]
      exact ⟨Nat.le_refl _, fun j hj => by
        rcases Nat.lt_or_eq_of_le hj with q | q
        · have := b j (by omega); omega
        · subst q; exact Int.le_refl _⟩
    · have e : argBest (fun i j => decide (f i > f j)) (n + 1) = argBest (fun i j => decide (f i > f j)) n := by simp [argBest, h]
      rw [e]
      exact ⟨by omega, fun j hj => by
        rcases Nat.lt_or_eq_of_le hj with q | q
        · exact b j (by omega)
        · subst q; omega⟩
theorem numAt_get (xs : List (Int × Tok)) (i : Nat) (h : i < xs.length) : numAt xs.toArray i = (xs.map (·.1))[i]'(by simpa using h) := by
  simp [numAt, h]
theorem call_minL (hh : A.handled = none) {ns : List Int} (hn : ns ≠ []) : CallD w A (.builtin "min") [.list (ns.map .int)] (.int (minL ns)) := ⟨fun av s h tk vs Q E B dom a k => by
  obtain ⟨v, rfl, x⟩ := a.one
  obtain ⟨l, us, n, rfl, ho, hs⟩ := x.list
  obtain ⟨xs, rfl, rfl⟩ := ints_vals hs
  have hne : 0 < xs.length := by cases xs with | nil => exact absurd rfl hn | cons _ _ => simp
  refine min_intList (s := upd s h tk) (xs := xs.toArray) hh ⟨_, ho, rfl, n, by rw [← itemsArr]⟩ (by simpa using hne) fun v h' tk' hv e => ?_
  obtain ⟨b1, b2⟩ := argBest_min (numAt xs.toArray) (xs.toArray.size - 1)
  have hlt : argBest (fun i j => decide (numAt xs.toArray i < numAt xs.toArray j)) (xs.toArray.size - 1) < xs.length := by simp at b1 ⊢; omega
  obtain ⟨t, rfl⟩ := intItems_at hv
  refine k _ h' tk' e ?_
  have e2 : numAt xs.toArray (argBest (fun i j => decide (numAt xs.toArray i < numAt xs.toArray j)) (xs.toArray.size - 1)) = minL (xs.map (·.1)) := by
    obtain ⟨m1, m2⟩ := minL_spec (xs.map (·.1)) hn
    refine Int.le_antisymm ?_ ?_
    · obtain ⟨j, hj, hq⟩ := List.mem_iff_getElem.mp m1
      have := b2 j (by simp at hj ⊢; omega)
      rw [numAt_get xs j (by simpa using hj), hq] at this; exact this
    · rw [numAt_get xs _ hlt]; exact m2 _ (List.getElem_mem _)
  rw [e2]; exact .int _ _⟩
theorem call_maxL (hh : A.handled = none) {ns : List Int} (hn : ns ≠ []) : CallD w A (.builtin "max") [.list (ns.map .int)] (.int (maxL ns)) := ⟨fun av s h tk vs Q E B dom a k => by
  obtain ⟨v, rfl, x⟩ := a.one
  obtain ⟨l, us, n, rfl, ho, hs⟩ := x.list
  obtain ⟨xs, rfl, rfl⟩ := ints_vals hs
  have hne : 0 < xs.length := by cases xs with | nil => exact absurd rfl hn | cons _ _ => simp
  refine max_intList (s := upd s h tk) (xs := xs.toArray) hh ⟨_, ho, rfl, n, by rw [← itemsArr]⟩ (by simpa using hne) fun v h' tk' hv e => ?_
  obtain ⟨b1, b2⟩ := argBest_max (numAt xs.toArray) (xs.toArray.size - 1)
  have hlt : argBest (fun i j => decide (numAt xs.toArray i > numAt xs.toArray j)) (xs.toArray.size - 1) < xs.length := by simp at b1 ⊢; omega
  obtain ⟨t, rfl⟩ := intItems_at hv
  refine k _ h' tk' e ?_
  have e2 : numAt xs.toArray (argBest (fun i j => decide (numAt xs.toArray i > numAt xs.toArray j)) (xs.toArray.size - 1)) = maxL (xs.map (·.1)) := by
    obtain ⟨m1, m2⟩ := maxL_spec (xs.map (·.1)) hn
    refine Int.le_antisymm ?_ ?_
    · rw [numAt_get xs _ hlt]; exact m2 _ (List.getElem_mem _)
    · obtain ⟨j, hj, hq⟩ := List.mem_iff_getElem.mp m1
      have := b2 j (by simp at hj ⊢; omega)
      rw [numAt_get xs j (by simpa using hj), hq] at this; exact this
  rw [e2]; exact .int _ _⟩
theorem preSum_list : ∀ (ns : List Int) (f : Nat → Int), (∀ (i : Nat) (h : i < ns.length), f i = ns[i]) → ∀ n, n ≤ ns.length → preSum f n = (ns.take n).sum
  | ns, f, hf, 0, _ => by simp [preSum]
  | ns, f, hf, n + 1, hn => by
    rw [preSum, preSum_list ns f hf n (by omega), hf n (by omega), List.take_add_one, List.getElem?_eq_getElem (show n < ns.length by omega), List.sum_append]
    simp
theorem call_sumL (hh : A.handled = none) {ns : List Int} : CallD w A (.builtin "sum") [.list (ns.map .int)] (.int ns.sum) := ⟨fun av s h tk vs Q E B dom a k => by
  obtain ⟨v, rfl, x⟩ := a.one
  obtain ⟨l, us, n, rfl, ho, hs⟩ := x.list
  obtain ⟨xs, rfl, rfl⟩ := ints_vals hs
  refine call_sum_walkAnyS (s := upd s h tk) (iter_intList (s := upd s h tk) (xs := xs.toArray) ⟨_, ho, rfl, n, by rw [← itemsArr]⟩ fun s₂ e st hfp hlI => ?_)
  subst e
  refine ⟨_, _, _, _, _, _, _, numAt xs.toArray, rfl, (Walks.list (prog := P0) (w := w) (A := A.in1) hh _ l hlI (intItems xs.toArray)).toS, st, hfp, fun _ _ => intItems_at, fun s' t' mv => ?_⟩
  have hs' : s' = upd s s'.heap s'.toks := by
    obtain ⟨h1, g1, d1, t1, o1⟩ := s'
    have a1 := mv.gens; have a2 := mv.drawn; have a3 := mv.os
    simp only [upd] at a1 a2 a3 ⊢
    rw [a1, a2, a3]
  have e : Ext h s'.heap := old_kept (s := upd s h tk) fun b o nb q => mv.heap b o nb q
  rw [hs']
  refine k _ _ _ e ?_
  have e2 : preSum (numAt xs.toArray) (intItems xs.toArray).size = (xs.map (·.1)).sum := by
    rw [preSum_list (xs.map (·.1)) _ (fun i hi => numAt_get xs i (by simpa using hi)) _ (by simp [intItems]), List.take_of_length_le (by simp [intItems])]
  rw [e2]; exact .int _ _⟩

/-! methods -/
theorem gm_join {x : Str} : GetM w A (.str x) "join" (.builtin "str.join") := ⟨fun av s h tk v pl Q E B a k => by
  obtain ⟨t, rfl⟩ := a.str; with_reducible exact GM.join k⟩
theorem gm_split {x : Str} : GetM w A (.str x) "split" (.builtin "str.split") := ⟨fun av s h tk v pl Q E B a k => by
  obtain ⟨t, rfl⟩ := a.str; with_reducible exact GM.split k⟩
theorem gm_startswith {x : Str} : GetM w A (.str x) "startswith" (.builtin "str.startswith") := ⟨fun av s h tk v pl Q E B a k => by
  obtain ⟨t, rfl⟩ := a.str; with_reducible exact GM.startswith k⟩
theorem gm_count {ds : List D} : GetM w A (.list ds) "count" (.builtin "list.count") := ⟨fun av s h tk v pl Q E B a k => by
  obtain ⟨l, vs, n, rfl, ho, hs⟩ := a.list
  exact getMethod_builtin (s := upd s h tk) ⟨_, ho, rfl⟩ F.plainAttrs_list F.slot_list_count F.type_list_count (fun a e => by cases e; exact ⟨_, ho, rfl⟩) k⟩
theorem call_join {x : Str} {ts : List Str} (hok : JoinOk x ts = true) : CallD w A (.builtin "str.join") [.str x, .list (ts.map .str)] (.str (Txt.join x ts)) := ⟨fun av s h tk vs Q E B dom a k => by
  obtain ⟨v, u, rfl, y, z⟩ := a.two
  obtain ⟨t, rfl⟩ := y.str
  obtain ⟨l, us, n, rfl, ho, hs⟩ := z.list
  obtain ⟨xs, rfl, rfl⟩ := strs_vals hs
  exact SC.join (s := upd s h tk) ⟨_, ho, rfl, n, rfl⟩ rfl hok fun t' tk' => k _ h tk' (Ext.refl h) (.str _ _)⟩
theorem call_startswith {x y : Str} : CallD w A (.builtin "str.startswith") [.str x, .str y] (.bool (Txt.startswith x y)) := ⟨fun av s h tk vs Q E B dom a k => by
  obtain ⟨v, u, rfl, p, q⟩ := a.two
  obtain ⟨t, rfl⟩ := p.str; obtain ⟨t', rfl⟩ := q.str
  exact SC.startswith (s := upd s h tk) (k _ h tk (Ext.refl h) (.bool _))⟩
def isInt (k : Int) : Value → Bool
  | .int i _ => i == k
  | _ => false
theorem call_count {ns : List Int} {m : Int} : CallD w A (.builtin "list.count") [.list (ns.map .int), .int m] (.int (ns.count m : Nat)) := ⟨fun av s h tk vs Q E B dom a k => by
  obtain ⟨v, u, rfl, y, z⟩ := a.two
  obtain ⟨l, us, n, rfl, ho, hs⟩ := y.list
  obtain ⟨t, rfl⟩ := z.int
  obtain ⟨xs, rfl, rfl⟩ := ints_vals hs
  refine call_meets (s := upd s h tk) F.slot_list_count ⟨_, ho, rfl⟩ F.entry_list_count (F.args_list_count_2 _ _) (MeetsSeq.list_count l _ n (.int m t) (isInt m) fun y hy => ?_) ⟨ho, ?_⟩
  · simp only [List.mem_toArray, List.mem_map] at hy
    obtain ⟨p, _, rfl⟩ := hy
    exact MeetsSeq.EqGives.int p.1 m p.2 t
  · have e : (xs.map (fun p => Value.int p.1 p.2)).toArray.toList.countP (isInt m) = (xs.map (·.1)).count m := by
      rw [List.count, List.countP_map, List.countP_map]; rfl
    show Q (.int ((xs.map (fun p => Value.int p.1 p.2)).toArray.toList.countP (isInt m) : Nat) tk) (upd s h (tk + 1))
    rw [e]; exact k _ h (tk + 1) (Ext.refl h) (.int _ _)⟩

/-! slices -/
def PartE (w : World) (A : Around) (env : Env) (σ : Sg) (μ : Mu) (x : Option Expr) (k : Option Int) : Prop := match x, k with
  | none, none => True
  | some e, some i => EvT w A env σ μ e (.int i)
  | _, _ => False
variable {env : Env} {σ : Sg} {μ : Mu}
theorem part_ev {x : Option Expr} {i : Option Int} (hp : PartE w A env σ μ x i) {g : Heap} {av : AV} {s : Shared} {h : Heap} {tk : Nat} {Q : Value → Shared → Prop} {E : Value → Shared → Prop} (st : S w g env av h σ μ)
    (k : ∀ v h' tk', Ext h h' → IsPart v i → (∃ o, v = partValue o ∧ o.map (·.1) = i) → Q v (upd s h' tk')) : wpAny (model P0 w) A (evalPart x env) Q E (upd s h tk) := by
  cases x with
  | none => cases i with
    | none => exact wpAny_pure (k _ h tk (Ext.refl h) .none ⟨none, rfl, rfl⟩)
    | some i => exact hp.elim
  | some e => cases i with
    | none => exact hp.elim
    | some i =>
      refine hp.run g av s h tk Q E st fun v h' tk' e a => ?_
      obtain ⟨t, rfl⟩ := a.int
      exact k _ h' tk' e (.int _ _) ⟨some (i, t), rfl, rfl⟩
theorem ev_sliceL {o : Expr} {lo hi : Option Expr} {p pos : Pos} {ds : List D} {l u : Option Int} (ho : EvT w A env σ μ o (.list ds)) (hl : PartE w A env σ μ lo l) (hu : PartE w A env σ μ hi u) (hz : ds.length ≤ sizeLine)
    {out : List D} (hats : ∀ (av : AV) (h : Heap) (vs : List Value), Ats av h vs ds → Ats av h (slicePick vs.toArray l u none).toList out)
    (ht : ∀ (a b : Value), letTemporaryGo o a b = pure () := by intro _ _; rfl) : Ev w A env σ μ (.Subscript o (.Slice lo hi none p) pos) (.list out) := ⟨fun g av s h tk Q E st k => by
  refine wpAny_Subscript_list_slice (ho.run g av s h tk _ E st fun v h1 tk1 e1 a1 => part_ev hl (st.grow e1) fun vl h2 tk2 e2 p2 _ => part_ev hu ((st.grow e1).grow e2) fun vu h3 tk3 e3 p3 _ => ?_) ht
  obtain ⟨a, vs, n, rfl, o1, s1⟩ := ((a1.ext e2).ext e3).list
  refine ⟨a, vs.toArray, l, u, rfl, ⟨_, o1, rfl, n, rfl⟩, by simpa [s1.length] using hz, p2, p3, ?_⟩
  have e4 := e1.trans (e2.trans e3)
  have dom := (st.grow e4).dom
  have e5 : Ext h3 ((h3.push { cls := .type "slice", data := .fields #[vl, vu, .none] }).push { cls := .type "list", data := .seq (slicePick vs.toArray l u none) }) := (Ext.push _ _).trans (Ext.push _ _)
  refine k _ _ tk3 (e4.trans e5) (.list (vs := (slicePick vs.toArray l u none).toList) (n := 0) (fun q => ?_) ?_ ((hats av h3 vs s1).ext e5))
  · obtain ⟨o, ho⟩ := dom _ q
    have := Heap.lt_size ho
    exact absurd this (Nat.not_lt.mpr (Nat.le_succ _))
  · have := Heap.get?_push_size (h3.push { cls := .type "slice", data := .fields #[vl, vu, .none] }) (o := { cls := .type "list", data := .seq (slicePick vs.toArray l u none) }) rfl
    rw [Heap.size_push] at this
    simpa [upd] using this⟩
theorem ev_take {o e : Expr} {p pos : Pos} {ds : List D} {n : Nat} (ho : EvT w A env σ μ o (.list ds)) (hu : EvT w A env σ μ e (.int n)) (hz : ds.length ≤ sizeLine)
    (ht : ∀ (a b : Value), letTemporaryGo o a b = pure () := by intro _ _; rfl) : Ev w A env σ μ (.Subscript o (.Slice none (some e) none p) pos) (.list (ds.take n)) :=
  ev_sliceL (lo := none) (hi := some e) (l := none) (u := some (n : Int)) ho trivial hu hz (fun av h vs x => by rw [slicePick_upto']; simpa using x.take n) ht
theorem ev_drop {o e : Expr} {p pos : Pos} {ds : List D} {n : Nat} (ho : EvT w A env σ μ o (.list ds)) (hu : EvT w A env σ μ e (.int n)) (hz : ds.length ≤ sizeLine)
    (ht : ∀ (a b : Value), letTemporaryGo o a b = pure () := by intro _ _; rfl) : Ev w A env σ μ (.Subscript o (.Slice (some e) none none p) pos) (.list (ds.drop n)) :=
  ev_sliceL (lo := some e) (hi := none) (l := some (n : Int)) (u := none) ho hu trivial hz (fun av h vs x => by rw [slicePick_from']; simpa using x.drop n) ht

/-! lists filled and emptied in place -/
theorem go_append {g : Heap} {av₀ : AV} {s : Shared} {Q : Flow → Shared → Prop} {rest : List Stmt} {x : Str} {px apos pos epos : Pos} {l : Addr} {ds : List D} {e : Expr} {d : D} (hl : σ.lookup x = some (.m l)) (hm : μ.lookup l = some (.list ds))
    (he : Ev w A env σ μ e d) (hz : ds.length ≤ sizeLine) {μ' : Mu} (hμ : ∀ a mo, μ'.lookup a = some mo → (a = l ∧ mo = .list (ds ++ [d])) ∨ (a ≠ l ∧ μ.lookup a = some mo)) (k : Go w A env g av₀ s Q σ μ' rest)
    (hd : (x == ("__debug__" : Str)) = false := by decide) (hx : ∀ env, starEach [e] env = (false, eval e env) :: starEach [] env := by intros; rfl) (hl' : (apos.endLine == pos.line) = true := by decide) (hi : interactive env = false := by rfl) :
    Go w A env g av₀ s Q σ μ (.Expr (.Call (.Attribute (.Name x px) "append" apos) [e] [] pos) epos :: rest) := ⟨fun av h tk up om st => by
  refine wpAny_execs_cons (wpAny_Expr ?_ hi rfl)
  obtain ⟨pl, he'⟩ := meth_eq (env := env) (o := .Name x px) (name := "append") (apos := apos) (pos := pos) (args := [e]) rfl hl' (by rw [hx]; rfl) (by simp)
  refine methodCall_KW (kws := []) (wpAny_Name (ld_name st hl fun v hv => ?_) hd) he'
  subst hv
  obtain ⟨⟨vs, n, ho, hs⟩, _⟩ := st.mu l _ hm
  refine getMethod_list_append (s := upd s h tk) ho rfl rfl ?_
  rw [hx]
  refine callWith_of (P := fun _ => True) rfl (keeps_machine rfl) (evalArgs_plain (spliced_cons (he.run g av s h tk _ _ st fun v h1 tk1 e1 a1 => spliced_nil ⟨trivial, ?_⟩)))
  have st1 := st.grow e1
  obtain ⟨⟨vs, n, ho, hs⟩, al, _⟩ := st1.mu l _ hm
  refine wpAny_list_append_plain (s := upd s h1 tk1) (items := vs.toArray) ⟨n, ho⟩ (fun h' hp hsb => ?_) (by simpa [hs.length] using hz)
  obtain ⟨n', ho'⟩ := hp
  refine k.run av h' tk1 up (fun a mo q => ?_) (st1.setMu (vs' := vs ++ [v]) (n' := n') hm hsb (by simpa using ho') (hs.snoc a1) hμ)
  rcases hμ a mo q with ⟨r, _⟩ | ⟨_, r⟩
  · exact om a _ (r ▸ hm)
  · exact om a _ r⟩
/-- x[i] = e of a mutable list -/
theorem go_setitem {g : Heap} {av₀ : AV} {s : Shared} {Q : Flow → Shared → Prop} {rest : List Stmt} {x : Str} {px spos pos : Pos} {l : Addr} {ds : List D} {ie e : Expr} {i : Int} {d : D} (hl : σ.lookup x = some (.m l)) (hm : μ.lookup l = some (.list ds))
    (he : Ev w A env σ μ e d) (hi : EvT w A env σ μ ie (.int i)) (h0 : 0 ≤ i) (h1 : i < ds.length) (h2 : i < 2 ^ 63) {μ' : Mu} (hμ : ∀ a mo, μ'.lookup a = some mo → (a = l ∧ mo = .list (ds.set i.toNat d)) ∨ (a ≠ l ∧ μ.lookup a = some mo)) (k : Go w A env g av₀ s Q σ μ' rest)
    (hd : (x == ("__debug__" : Str)) = false := by decide) (hs : swapsWith e (some (.Subscript (.Name x px) ie spos)) pos.line env = pure false := by rfl) : Go w A env g av₀ s Q σ μ (.Assign [.Subscript (.Name x px) ie spos] e pos :: rest) := ⟨fun av h tk up om st => by
  refine wpAny_execs_cons (wpAny_Assign_Subscript ?_ hs)
  refine he.run g av s h tk _ _ st fun v h1' tk1 e1 a1 => ?_
  have st1 := st.grow e1
  refine wpAny_Name (ld_name st1 hl fun u hu => ?_) hd
  subst hu
  refine hi.run g av s h1' tk1 _ _ st1 fun iv h2' tk2 e2 a2 => ?_
  obtain ⟨t, rfl⟩ := a2.int
  have st2 := st1.grow e2
  obtain ⟨⟨vs, n, ho, hvs⟩, al, _⟩ := st2.mu l _ hm
  have hlen := hvs.length
  refine ki_setAt (s := upd s h2' tk2) ho h0 h2 (by simp [hlen]; exact h1) ?_
  have hj : i.toNat < vs.length := by omega
  refine k.run av _ tk2 up (fun a mo q => ?_) (st2.setMu (vs' := vs.set i.toNat v) (n' := n) hm (Heap.SameBut.update ..) ((Heap.get?_update_self _ ho rfl).trans ?_) (hvs.set i.toNat (a1.ext e2)) hμ)
  · rcases hμ a mo q with ⟨r, _⟩ | ⟨_, r⟩
    · exact om a _ (r ▸ hm)
    · exact om a _ r
  · show some _ = some _
    simp [Obj.mapSeq, lstO]⟩
end
end
section

def Own (env : Env) (μ : Mu) (a : Addr) : Prop := a = env.locals ∨ (∃ y, env.cells.lookup y = some a) ∨ ∃ mo, μ.lookup a = some mo
def ownAs (env : Env) (μ : Mu) : List Addr := env.locals :: ((env.cells.filterMap fun p => env.cells.lookup p.1) ++ μ.map (·.1))
theorem lookup_of_memM {α : Type} : ∀ {l : List (Addr × α)} {a : Addr} {c : α}, (a, c) ∈ l → ∃ c', l.lookup a = some c'
  | (k, v) :: r, a, c, h => by
    rw [lookupM_cons]
    by_cases e : a = k
    · exact ⟨v, by rw [if_pos e]⟩
    · rw [if_neg e]
      rcases List.mem_cons.mp h with h | h
      · cases h; exact absurd rfl e
      · exact lookup_of_memM h
theorem own_mem {env : Env} {μ : Mu} {a : Addr} : a ∈ ownAs env μ ↔ Own env μ a := by
  unfold ownAs Own
  rw [List.mem_cons, List.mem_append]
  refine or_congr Iff.rfl (or_congr ⟨fun h => ?_, fun h => ?_⟩ ⟨fun h => ?_, fun h => ?_⟩)
  · obtain ⟨p, hp, e⟩ := List.mem_filterMap.mp h; exact ⟨p.1, e⟩
  · obtain ⟨y, e⟩ := h; exact List.mem_filterMap.mpr ⟨(y, a), PySem.mem_of_lookup e, e⟩
  · obtain ⟨⟨b, mo⟩, hp, rfl⟩ := List.mem_map.mp h; exact lookup_of_memM hp
  · obtain ⟨mo, e⟩ := h; exact mem_of_lookupM e
theorem S.own_none {w g env av h σ μ} (x : S w g env av h σ μ) {a : Addr} (q : Own env μ a) : g.get? a = none ∧ av a := by
  rcases q with q | ⟨y, q⟩ | ⟨mo, q⟩
  · exact q ▸ ⟨x.ownL.2, x.ownL.1⟩
  · exact ⟨(x.ownC y a q).2.1, (x.ownC y a q).1⟩
  · exact ⟨(x.mu a mo q).2.2.1, (x.mu a mo q).2.1⟩
/-- a new base: all that stands, less what the frame owns -/
theorem S.rebase' {w g env av h σ μ} (x : S w g env av h σ μ) : ∃ g', S w g' env av h σ μ ∧ Ext g g' ∧ ∀ a o, ¬ Own env μ a → h.get? a = some o → g'.get? a = some o := by
  have keep : ∀ a o, ¬ Own env μ a → h.get? a = some o → (hideAll h (ownAs env μ)).get? a = some o := fun a o n q => hideAll_get _ q fun m => n (own_mem.mp m)
  have keepG : Ext g (hideAll h (ownAs env μ)) := fun b o e => keep b o (fun q => by rw [(x.own_none q).1] at e; cases e) (x.ext _ _ e)
  have gn : ∀ {a}, Own env μ a → (hideAll h (ownAs env μ)).get? a = none := fun q => gone (own_mem.mpr q)
  refine ⟨hideAll h (ownAs env μ), ?_, keepG, keep⟩
  exact {
    base := x.base.ext keepG
    ext := fun b o e => of_hideAll _ e
    kind := x.kind
    glob := x.glob
    blt := x.blt
    ns := x.ns
    cells := x.cells
    ownL := ⟨x.ownL.1, gn (.inl rfl)⟩
    ownC := fun y c q => by
      obtain ⟨a, b, d⟩ := x.ownC y c q
      exact ⟨a, gn (.inr (.inl ⟨y, q⟩)), d⟩
    apart := x.apart
    dom := x.dom
    mu := fun a mo q => by
      obtain ⟨b, c, d, e⟩ := x.mu a mo q
      exact ⟨b, c, gn (.inr (.inr ⟨mo, q⟩)), e⟩ }

/-- what a loop's body may end with -/
structure LoopQ (w : World) (env : Env) (g : Heap) (av : AV) (s : Shared) (Jn : Sg → Mu → Prop) (Jb : Sg → Mu → Prop) (Rt : D → Prop) (Q : Flow → Shared → Prop) : Prop where
  next : ∀ σ μ, Jn σ μ → ∀ av' h tk, (∀ a, av a → av' a) → OffMu av μ → S w g env av' h σ μ → Q .next (upd s h tk)
  cont : ∀ σ μ, Jn σ μ → ∀ av' h tk, (∀ a, av a → av' a) → OffMu av μ → S w g env av' h σ μ → Q .cont (upd s h tk)
  brk : ∀ σ μ, Jb σ μ → ∀ av' h tk, (∀ a, av a → av' a) → OffMu av μ → S w g env av' h σ μ → Q .brk (upd s h tk)
  ret : ∀ r, Rt r → ∀ v h' tk', Ext g h' → At av h' v r → Q (.ret v) (upd s h' tk')

section
variable {w : World} {A : Around} {env : Env} {σ : Sg} {μ : Mu} {g : Heap} {av₀ : AV} {s : Shared} {Q : Flow → Shared → Prop} {rest : List Stmt}

theorem execs_E {sts : List Stmt} {Q : Flow → Shared → Prop} {E : Value → Shared → Prop} {s : Shared} (h : wpAny (model P0 w) A (execs sts env) Q (fun _ _ => False) s) : wpAny (model P0 w) A (execs sts env) Q E s :=
  wpAny_mono h (fun _ _ z => z) fun _ _ z => z.elim

theorem go_for {tup : Bool} {target iter : Expr} {items : List D} {body : List Stmt} {pos : Pos} (hsrc : Src tup w A env σ μ iter items) (htg : tup = true → ∃ es k p, target = .Tuple es k p)
    (J : Nat → Sg → Mu → Prop) (Jb : Sg → Mu → Prop) (Rt : D → Prop) (h0 : J 0 σ μ)
    (turn : ∀ i d σi μi, items[i]? = some d → J i σi μi → ∃ σ1, Bind w A env σi target d σ1 ∧ ∀ g' av1 Q', LoopQ w env g' av1 s (J (i + 1)) Jb Rt Q' → Go w A env g' av1 s Q' σ1 μi body)
    (after : ∀ σn μn, (J items.length σn μn ∨ Jb σn μn) → Go w A env g av₀ s Q σn μn rest)
    (hret : ∀ r, Rt r → ∀ v h' tk', Ext g h' → At av₀ h' v r → Q (.ret v) (upd s h' tk'))
    (hs : ∀ x, foldedSetIterable iter env x = pure x := by intro _; rfl) : Go w A env g av₀ s Q σ μ (.For target iter body [] pos :: rest) := by
  refine ⟨fun av h tk up om st => wpAny_execs_cons (wpAny_For (hsrc.run g av s h tk _ _ st fun I wr h2 tk2 mk e0 hwr => ?_) hs)⟩
  obtain ⟨av', hav⟩ : ∃ av' : AV, ∀ a, av' a ↔ (av a ∨ a ∈ wr ∨ h2.get? a = none) := ⟨_, fun a => Iff.rfl⟩
  obtain ⟨St, it, st0⟩ := mk av' (fun a q => (hav a).mpr (.inl q)) (fun a q => (hav a).mpr (.inr (.inl q))) (fun a q => (hav a).mp q)
  have wrav : ∀ a ∈ wr, ¬ av a := fun a q r => by obtain ⟨o, ho⟩ := st.dom a r; rw [(hwr a q).1] at ho; cases ho
  have wrg : ∀ a ∈ wr, g.get? a = none := fun a q => by
    cases r : g.get? a with
    | none => rfl
    | some o => have := st.ext _ _ r; rw [(hwr a q).1] at this; cases this
  -- wr against the frame's own
  have wrOwn : ∀ {μi : Mu}, (∀ a ∈ wr, ∀ mo, μi.lookup a ≠ some mo) → ∀ a, Own env μi a → a ∉ wr := fun hm a q m => by
    rcases q with q | ⟨y, q⟩ | ⟨mo, q⟩
    · exact wrav a m (q ▸ st.ownL.1)
    · exact wrav a m (st.ownC y a q).1
    · exact hm a m mo q
  have S0 : S w g env (fun a => av a ∨ a ∈ wr) h2 σ μ := st.live e0 (fun a q => .inl q) (fun a q => q.imp id fun q => (hwr a q).1) (fun a q => by
    rcases q with q | q
    · obtain ⟨o, ho⟩ := st.dom a q; exact ⟨o, e0 _ _ ho⟩
    · exact (hwr a q).2)
  refine codeAny_forLoop_any (fun n s' => ∃ hi tki i avi σi μi, s' = upd s hi tki ∧ n = items.length - i ∧ i ≤ items.length ∧ St i hi ∧ S w g env avi hi σi μi ∧ (∀ a, avi a → av' a) ∧ (∀ a ∈ wr, avi a) ∧ (∀ a, av₀ a → avi a) ∧ OffMu av₀ μi ∧
      (∀ a ∈ wr, ∀ mo, μi.lookup a ≠ some mo) ∧ J i σi μi ∧ ∀ a, hi.get? a = none → av' a) ?_ items.length
    ⟨h2, tk2, 0, _, σ, μ, rfl, by simp, Nat.zero_le _, st0, S0, fun a q => (hav a).mpr (q.elim .inl fun q => .inr (.inl q)), fun a q => .inr q, fun a q => .inl (up a q), om, fun a q mo r => wrav a q (st.mu a mo r).2.1, h0, fun a q => (hav a).mpr (.inr (.inr q))⟩
  rintro n s' ⟨hi, tki, i, avi, σi, μi, rfl, rfl, hle, sti, Si, iav, iwr, iup, iom, iwm, ij, ial⟩
  by_cases hlt : i < items.length
  · obtain ⟨d, hd⟩ : ∃ d, items[i]? = some d := ⟨items[i], by simp [hlt]⟩
    obtain ⟨σ1, hb, hbody⟩ := turn i d σi μi hd ij
    obtain ⟨QB, hQB⟩ : ∃ QB : Flow → Shared → Prop, QB = fun f s₃ => match f with
            | .next | .cont => ∃ m, m < items.length - i ∧ (∃ hi tki i avi σi μi, s₃ = upd s hi tki ∧ m = items.length - i ∧ i ≤ items.length ∧ St i hi ∧ S w g env avi hi σi μi ∧ (∀ a, avi a → av' a) ∧ (∀ a ∈ wr, avi a) ∧ (∀ a, av₀ a → avi a) ∧ OffMu av₀ μi ∧
              (∀ a ∈ wr, ∀ mo, μi.lookup a ≠ some mo) ∧ J i σi μi ∧ ∀ a, hi.get? a = none → av' a)
            | .brk => wpAny (model P0 w) A (execs rest env) Q (fun _ _ => False) s₃
            | .ret v => Q (.ret v) s₃ := ⟨_, rfl⟩
    refine wpAny_mono (it.next target i d s hi tki (fun v s2 => wpAny (model P0 w) A (assign target env v) (fun _ s₂ => wpAny (model P0 w) A (execs body env) QB (fun _ _ => False) s₂) (fun _ _ => False) s2) (fun _ _ => False) htg avi iav iwr sti hd Si.dom ?_) ?_ fun _ _ x => x.elim
    · intro v h' tk' st' kb' a'
      have Sk : S w g env avi h' σi μi := by
        refine Si.go2 (fun b o q => kb' b o (fun m => by rw [wrg b m] at q; cases q) (Si.ext b o q)) (fun a o n q => ⟨n, kb' a o (fun m => n (iwr a m)) q⟩) Si.ownL.1 (fun y c q => (Si.ownC y c q).1) (fun a mo q => (Si.mu a mo q).2.1) (fun a q => ?_) (fun a o q r => kb' a o (wrOwn iwm a q) r)
        by_cases m : a ∈ wr
        · exact it.alive _ _ st' a m
        · obtain ⟨o, ho⟩ := Si.dom a q; exact ⟨o, kb' a o m ho⟩
      have al' : ∀ a, h'.get? a = none → av' a := fun a q => by
        by_cases m : a ∈ wr
        · obtain ⟨o, ho⟩ := it.alive _ _ st' a m; rw [ho] at q; cases q
        · refine ial a ?_
          cases r : hi.get? a with
          | none => rfl
          | some o => rw [kb' a o m r] at q; cases q
      obtain ⟨g', Sg', eg, keep⟩ := Sk.rebase'
      have nown : ∀ a, (a ∈ wr ∨ ¬ av' a) → ¬ Own env μi a := fun a q r => q.elim (fun q => wrOwn iwm a r q) fun q => q (iav a (Sk.own_none r).2)
      -- what holds at the turn's end
      have fin : ∀ {σ' μ' avx hx}, (∀ a, (av₀ a ∨ a ∈ wr) → avx a) → S w g' env avx hx σ' μ' →
          St (i + 1) hx ∧ S w g env (fun a => avx a ∧ av' a) hx σ' μ' ∧ (∀ a, hx.get? a = none → av' a) := fun {σ' μ' avx hx} ux Sx => by
        refine ⟨it.frame _ _ _ st' fun a o q r => Sx.ext _ _ (keep a o (nown a q) r), ?_, fun a q => ?_⟩
        · refine (Sx.unbase Si.base eg).less (fun a q => q.1) ⟨Sx.ownL.1, iav _ Si.ownL.1⟩ (fun y c q => ⟨(Sx.ownC y c q).1, iav _ (Si.ownC y c q).1⟩) (fun a mo q => ⟨(Sx.mu a mo q).2.1, ?_⟩)
          by_cases m : Own env μi a
          · exact iav a (Sk.own_none m).2
          · refine al' a ?_
            cases r : h'.get? a with
            | none => rfl
            | some o => have := (Sx.mu a mo q).2.2.1; rw [keep a o m r] at this; cases this
        · by_cases m : Own env μi a
          · exact iav a (Sk.own_none m).2
          · refine al' a ?_
            cases r : h'.get? a with
            | none => rfl
            | some o => have := Sx.ext _ _ (keep a o m r); rw [q] at this; cases this
      have upAv : ∀ a, (av₀ a ∨ a ∈ wr) → av' a := fun a q => (hav a).mpr (q.elim (fun q => .inl (up a q)) fun q => .inr (.inl q))
      have goOn : ∀ σ' μ', J (i + 1) σ' μ' → ∀ avx hx tkx, (∀ a, (av₀ a ∨ a ∈ wr) → avx a) → OffMu (fun a => av₀ a ∨ a ∈ wr) μ' → S w g' env avx hx σ' μ' → QB .next (upd s hx tkx) ∧ QB .cont (upd s hx tkx) := fun σ' μ' j avx hx tkx ux ox Sx => by
        obtain ⟨f1, f2, f3⟩ := fin ux Sx
        subst hQB
        have : ∃ m, m < items.length - i ∧ (∃ hi tki i avi σi μi, upd s hx tkx = upd s hi tki ∧ m = items.length - i ∧ i ≤ items.length ∧ St i hi ∧ S w g env avi hi σi μi ∧ (∀ a, avi a → av' a) ∧ (∀ a ∈ wr, avi a) ∧ (∀ a, av₀ a → avi a) ∧ OffMu av₀ μi ∧
              (∀ a ∈ wr, ∀ mo, μi.lookup a ≠ some mo) ∧ J i σi μi ∧ ∀ a, hi.get? a = none → av' a) :=
          ⟨items.length - (i + 1), by omega, hx, tkx, i + 1, _, σ', μ', rfl, rfl, hlt, f1, f2, fun a q => q.2, fun a q => ⟨ux a (.inr q), upAv a (.inr q)⟩, fun a q => ⟨ux a (.inl q), upAv a (.inl q)⟩, fun a mo q r => ox a mo q (.inl r), fun a q mo r => ox a mo r (.inr q), j, f3⟩
        exact ⟨this, this⟩
      refine hb.run g' avi μi s h' tk' v _ _ Sg' a' fun h3 tk3 S3 => ?_
      refine (hbody g' (fun a => av₀ a ∨ a ∈ wr) QB ⟨fun σ' μ' j avx hx tkx ux ox Sx => (goOn σ' μ' j avx hx tkx ux ox Sx).1, fun σ' μ' j avx hx tkx ux ox Sx => (goOn σ' μ' j avx hx tkx ux ox Sx).2, fun σ' μ' j avx hx tkx ux ox Sx => ?_, fun r hr v h4 tk4 e4 a4 => ?_⟩).run avi h3 tk3 (fun a q => q.elim (iup a) (iwr a)) (fun a mo q r => r.elim (iom a mo q) fun r => iwm a r mo q) S3
      · obtain ⟨f1, f2, f3⟩ := fin ux Sx
        subst hQB
        exact (after σ' μ' (.inr j)).run _ hx tkx (fun a q => ⟨ux a (.inl q), upAv a (.inl q)⟩) (fun a mo q r => ox a mo q (.inl r)) f2
      · subst hQB
        exact hret r hr v h4 tk4 (eg.trans e4) (a4.less fun a q => .inl q)
    · rintro r s1 ⟨v, rfl, hv⟩
      refine wpAny_mono hv (fun _ s2 h2' => wpAny_mono h2' (fun _ s3 h3 => wpAny_mono h3 (fun f s4 h4 => ?_) fun _ _ z => z.elim) fun _ _ z => z.elim) fun _ _ z => z.elim
      subst hQB
      cases f with
      | next => exact h4
      | cont => exact h4
      | brk => exact h4
      | ret v => exact h4
  · have hin : i = items.length := by omega
    subst hin
    refine wpAny_mono (it.done s hi tki (fun s1 => wpAny (model P0 w) A (execs rest env) Q (fun _ _ => False) s1) (fun _ _ => False) sti fun h3 tk3 kb => ?_) (fun r s1 hr => ?_) fun _ _ x => x.elim
    · refine (after σi μi (.inl ij)).run (fun a => avi a ∧ a ∉ wr) h3 tk3 (fun a q => ⟨iup a q, fun m => wrav a m (up a q)⟩) iom ?_
      refine Si.go2 (fun b o q => kb b o (fun m => by rw [wrg b m] at q; cases q) (Si.ext b o q)) (fun a o n q => ⟨fun x => n x.1, kb a o (fun m => n (iwr a m)) q⟩) ⟨Si.ownL.1, wrOwn iwm _ (.inl rfl)⟩ (fun y c q => ⟨(Si.ownC y c q).1, wrOwn iwm _ (.inr (.inl ⟨y, q⟩))⟩) (fun a mo q => ⟨(Si.mu a mo q).2.1, wrOwn iwm _ (.inr (.inr ⟨mo, q⟩))⟩) (fun a q => ?_) (fun a o q r => kb a o (wrOwn iwm a q) r)
      obtain ⟨o, ho⟩ := Si.dom a q.1; exact ⟨o, kb a o q.2 ho⟩
    · obtain ⟨rfl, hr⟩ := hr
      exact wpAny_execs_nil hr
end
end
section
section
variable {w : World} {A : Around} {env : Env} {σ σc : Sg} {μ : Mu} {g : Heap} {av₀ : AV} {s : Shared} {Q : Flow → Shared → Prop} {rest : List Stmt}

theorem go_while {test : Expr} {body : List Stmt} {pos : Pos} (J : Nat → Sg → Mu → Prop) (Jb : Sg → Mu → Prop) (Rt : D → Prop) (n : Nat) (h0 : J n σ μ)
    (turn : ∀ n σi μi, J n σi μi → ∃ b, Tr w A env σi μi test b ∧ (b = true → ∀ Q', LoopQ w env g av₀ s (fun σ μ => ∃ m, m < n ∧ J m σ μ) Jb Rt Q' → Go w A env g av₀ s Q' σi μi body) ∧ (b = false → Go w A env g av₀ s Q σi μi rest))
    (onBrk : ∀ σn μn, Jb σn μn → Go w A env g av₀ s Q σn μn rest)
    (hret : ∀ r, Rt r → ∀ v h' tk', Ext g h' → At av₀ h' v r → Q (.ret v) (upd s h' tk')) : Go w A env g av₀ s Q σ μ (.While test body [] pos :: rest) := by
  refine ⟨fun av h tk up om st => wpAny_execs_cons (wpAny_While ?_)⟩
  refine codeAny_whileLoop (fun n s' => ∃ hi tki avi σi μi, s' = upd s hi tki ∧ S w g env avi hi σi μi ∧ (∀ a, av₀ a → avi a) ∧ OffMu av₀ μi ∧ J n σi μi) ?_ n ⟨h, tk, av, σ, μ, rfl, st, up, om, h0⟩
  rintro n s' ⟨hi, tki, avi, σi, μi, rfl, Si, ui, oi, j⟩
  obtain ⟨b, hb, ht, hf⟩ := turn n σi μi j
  refine hb.run g avi s hi tki _ _ Si fun h1 tk1 e1 => ?_
  have S1 := Si.grow e1
  cases b with
  | false =>
    simp only [Bool.false_eq_true, if_false]
    exact wpAny_execs_nil ((hf rfl).run avi h1 tk1 ui oi S1)
  | true =>
    simp only [if_true]
    refine execs_E ((ht rfl _ ⟨fun σ' μ' j' av' h' tk' u' o' S' => ?_, fun σ' μ' j' av' h' tk' u' o' S' => ?_, fun σ' μ' j' av' h' tk' u' o' S' => ?_, fun r hr v h' tk' e a => ?_⟩).run avi h1 tk1 ui oi S1)
    · obtain ⟨m, hm, j'⟩ := j'
      exact ⟨m, hm, h', tk', av', σ', μ', rfl, S', u', o', j'⟩
    · obtain ⟨m, hm, j'⟩ := j'
      exact ⟨m, hm, h', tk', av', σ', μ', rfl, S', u', o', j'⟩
    · exact (onBrk σ' μ' j').run av' h' tk' u' o' S'
    · exact hret r hr v h' tk' e a

/-- a comprehension given to a plain local -/
theorem go_comp {x : Str} {px pos cpos : Pos} {tup : Bool} {items outs : List D} {elt target iter : Expr} {ifs : List Expr} {rest' : List Comprehension} {scope : Scope} {cl : List (Str × Addr)}
    (hsrc : Src tup w A env σ μ iter items) (hclos : closureFor scope env = pure cl) (sees : Sees env scope cl σ σc) (hcell : ∀ y ∈ scope.names, y.2 ≠ .cell) (hk : scope.kind = .function)
    (hnames : ∀ y ∈ scope.names, y.2 = .local → scope.names.lookup y.1 = some .local)
    (loop : ∀ C, LoopOk w A (compEnvC scope cl C env) σc (.ListComp elt (⟨target, iter, ifs, 0⟩ :: rest') scope cpos) 0 tup items outs) (hz : outs.length ≤ sizeLine)
    (hx : env.kindOf x = some .local) (k : Go w A env g av₀ s Q ((x, .d (.list outs)) :: σ) μ rest)
    (hs : ∀ x, foldedSetIterable iter env x = pure x := by intro _; rfl)
    (hsw : swapsWith (.ListComp elt (⟨target, iter, ifs, 0⟩ :: rest') scope cpos) (some (.Name x px)) pos.line env = pure true := by rfl) :
    Go w A env g av₀ s Q σ μ (.Assign [.Name x px] (.ListComp elt (⟨target, iter, ifs, 0⟩ :: rest') scope cpos) pos :: rest) := by
  refine ⟨fun av h tk up om st => wpAny_execs_cons ?_⟩
  rw [exec_Assign_Name_used _ _ _ _ hsw, arm_evalThenUse_ListComp]
  refine wpAny_bind (wpAny_standAt (wpAny_bind ?_))
  have key : ∀ Q1 : Value → Shared → Prop, (∀ v h1 tk1, S w g env av h1 ((x, .d (.list outs)) :: σ) μ → Q1 v (upd s h1 tk1)) → wpAny (model P0 w) A (comprehension (.ListComp elt (⟨target, iter, ifs, 0⟩ :: rest') scope cpos) scope env (firstIterPos (⟨target, iter, ifs, 0⟩ :: rest') cpos) (newList []) false (firstIter (⟨target, iter, ifs, 0⟩ :: rest') env) (some (assign (.Name x px) env))) Q1 (fun _ _ => False) (upd s h tk) := fun Q1 k1 => by
    refine wpAny_comprehension_free rfl hs hclos hk hnames ?_
    refine hsrc.run g av s h tk _ _ st fun I wr h2 tk2 mk e0 hwr => ?_
    refine comp_core (RR := fun acc C => compPost (model P0 w) A (fun _ _ => False) (some (assign (.Name x px) env)) Q1 acc C) st sees hcell hk mk e0 hwr loop hz fun Da C h' tk' vs n m nD nC hDC hD hs' hC kb => ?_
    have eh : Ext h h' := fun a o q => kb a o (fun r => by rw [(hwr a r).1] at q; cases q) (e0 _ _ q)
    have nav : ∀ {a}, h2.get? a = none → h.get? a = none := fun {a} nD => by
      cases q : h.get? a with
      | none => rfl
      | some o => rw [e0 _ _ q] at nD; cases nD
    have dead : ∀ {a}, h.get? a = none → ¬ av a := fun nD q => by obtain ⟨o, ho⟩ := st.dom _ q; rw [ho] at nD; cases nD
    have S1 : S w g env (fun a => av a ∨ a = C) h' σ μ := st.live eh (fun a q => .inl q) (fun a q => q.imp id fun (q : a = C) => q ▸ nav nC) (fun a q => by
      rcases q with q | q
      · obtain ⟨o, ho⟩ := st.dom a q; exact ⟨o, eh _ _ ho⟩
      · subst q; obtain ⟨o, _, _, ho, _⟩ := hC; exact ⟨o, ho⟩)
    have nDa : ¬ (av Da ∨ Da = C) := fun q => q.elim (dead (nav nD)) hDC
    have neC : ∀ {a}, av a → a ≠ C := fun q r => dead (nav nC) (r ▸ q)
    show wpAny (model P0 w) A (assign (.Name x px) env (.ref Da)) _ _ _
    refine wpAny_assign_Name (st_local (sv := .d (.list outs)) S1 (.list (n := n) nDa hD hs') hx fun h1 tk1 S2 sb => ?_)
    refine ⟨m, hC.sameBut sb (Ne.symm (neC st.ownL.1)), fun h'' sb2 => ?_⟩
    refine k1 _ h'' tk1 (S2.go2 (fun b o q => (sb2.2 b fun r => ?_).trans (S2.ext b o q)) (fun a o na q => ⟨fun r => na (.inl r), (sb2.2 a fun r => na (.inr r)).trans q⟩) st.ownL.1 (fun y c q => (st.ownC y c q).1) (fun a mo q => (st.mu a mo q).2.1) (fun a q => ?_) fun a o q r => (sb2.2 a ?_).trans r)
    · have := st.ext b o q; rw [r, nav nC] at this; cases this
    · obtain ⟨o, ho⟩ := S2.dom a (.inl q); exact ⟨o, (sb2.2 a (neC q)).trans ho⟩
    · rcases q with q | ⟨y, q⟩ | ⟨mo, q⟩
      · exact neC (q ▸ st.ownL.1)
      · exact neC (st.ownC y a q).1
      · exact neC (st.mu a mo q).2.1
  exact wpAny_bind (key _ fun v h1 tk1 S1 => wpAny_pure (wpAny_pure (k.run av h1 tk1 up om S1)))
end
end
section

theorem fm_take_succ {α : Type} (f : α → List D) (xs : List α) (i : Nat) (x : α) (h : xs[i]? = some x) : (xs.take (i + 1)).flatMap f = (xs.take i).flatMap f ++ f x := by
  rw [List.take_add_one, h, List.flatMap_append]; simp
theorem fm_take_le {α : Type} (f : α → List D) : ∀ (xs : List α) (i : Nat), ((xs.take i).flatMap f).length ≤ (xs.flatMap f).length
  | [], i => by simp
  | d :: ds, 0 => by simp
  | d :: ds, i + 1 => by simp only [List.take_succ_cons, List.flatMap_cons, List.length_append]; have := fm_take_le f ds i; omega
/-- the zints from a on -/
def zints (a : Int) : Nat → List Int
  | 0 => []
  | n + 1 => a :: zints (a + 1) n
theorem upTo_ints : ∀ (n : Nat) (a : Int), upTo a n = (zints a n).map .int
  | 0, _ => rfl
  | n + 1, a => by simp [upTo, zints, upTo_ints n]
theorem mem_ints : ∀ (n : Nat) (a x : Int), x ∈ zints a n ↔ a ≤ x ∧ x < a + n
  | 0, a, x => by simp [zints]
  | n + 1, a, x => by simp only [zints, List.mem_cons, mem_ints n]; push_cast; omega
theorem ints_length : ∀ (n : Nat) (a : Int), (zints a n).length = n
  | 0, _ => rfl
  | n + 1, a => by simp [zints, ints_length n]
theorem ints_get : ∀ (n : Nat) (a : Int) (i : Nat), i < n → (zints a n)[i]? = some (a + i)
  | 0, _, _, h => absurd h (Nat.not_lt_zero _)
  | n + 1, a, 0, _ => by simp [zints]
  | n + 1, a, i + 1, h => by
    have := ints_get n (a + 1) i (by omega)
    simp only [zints, List.getElem?_cons_succ, this]
    congr 1; push_cast; omega
theorem pairs_map {α β : Type} (f : α → D) (g : β → D) : ∀ (xs : List α) (ys : List β), pairs (xs.map f) (ys.map g) = (xs.zip ys).map fun p => .tuple [f p.1, g p.2]
  | [], _ => by simp [pairs]
  | _ :: _, [] => by simp [pairs]
  | x :: xs, y :: ys => by simp [pairs, pairs_map f g xs ys]
theorem flatMap_one {α β : Type} (f : α → β) (xs : List α) : (xs.flatMap fun x => [f x]) = xs.map f := by induction xs <;> simp_all

section
variable {w : World} {A : Around} {env : Env} {σ : Sg}
theorem loop_map {α : Type} {inj : α → D} {f : α → List D} {e : Expr} {depth : Nat} {tup : Bool} {xs : List α} {target : Expr} {ifs : List Expr} {t : Value → Sem Unit} {p : Pos}
    (hturn : ∀ it acc, compTurn e depth it acc env = (do
      standAt p
      match ← pyNext it with
      | none => pure (.done .next)
      | some v =>
        letOwnedTupleGo target it v
        assign target env v
        let mut ok := true
        for c in ifs do
          if ok then ok ← isTrue c env (eval c env)
        if ok then
          t acc
        again (.compLoop e depth it acc env)))
    (hloop : ∀ it acc, (model P0 w).den (.compLoop e depth it acc env) = (compTurn e depth it acc env).onRaise fun x => do noteFrame x env; theTreesLotGoes x)
    (hq : ∀ it acc, (Code.compLoop e depth it acc env).quiet = true) (hu : ∀ it acc, A.under (.compLoop e depth it acc env) = A)
    (htg : tup = true → ∃ es k p, target = .Tuple es k p)
    (item : ∀ x, x ∈ xs → ∃ σ1 b, BindL w A env σ target (inj x) σ1 ∧ (∀ y sv, σ.lookup y = some sv → σ1.lookup y = some sv) ∧ (∀ μ, TrIfs w A env σ1 μ ifs b) ∧ (b = true → Body w A env σ1 t (f x)) ∧ (b = false → f x = [])) :
    LoopOk w A env σ e depth tup (xs.map inj) (xs.flatMap f) := by
  refine ⟨?_⟩
  intro g av μ Da I wr St ys s h tk R it st0 st hz hD hwr k
  refine codeAny_loop (hq _ _) (fun n s' => ∃ h' tk' i, s' = upd s h' tk' ∧ n = xs.length - i ∧ i ≤ xs.length ∧ St i h' ∧ S w g env av h' σ ((Da, .list (ys ++ (xs.take i).flatMap f)) :: μ) ∧ KeepBut (wr ++ [env.locals, Da]) h h') ?_ xs.length
    ⟨h, tk, 0, rfl, by simp, Nat.zero_le _, st0, by simpa using st, fun _ _ _ e => e⟩
  rintro n s' ⟨h', tk', i, rfl, rfl, hi, sti, sti', hk⟩
  rw [hloop, hu]
  refine wpAny_noted ?_
  rw [hturn]
  refine wpAny_bind (wpAny_standAt (wpAny_bind ?_))
  have nwr : ∀ a, (a = env.locals ∨ (∃ y, env.cells.lookup y = some a) ∨ ∃ mo, List.lookup a ((Da, MO.list (ys ++ (xs.take i).flatMap f)) :: μ) = some mo) → a ∉ wr := fun a q m => by
    obtain ⟨_, _, m1, m2, m3, m4⟩ := hwr a m
    rcases q with q | ⟨y, q⟩ | ⟨mo, q⟩
    · exact m2 q
    · exact m3 y a q rfl
    · rw [lookupM_cons, if_neg m1] at q; exact m4 mo q
  by_cases hlt : i < xs.length
  · obtain ⟨x, hx⟩ : ∃ d, xs[i]? = some d := ⟨xs[i], by simp [hlt]⟩
    have hd : (xs.map inj)[i]? = some (inj x) := by rw [List.getElem?_map, hx]; rfl
    obtain ⟨σ1, b, hb, hw, hi1, hi2, hi3⟩ := item x (List.mem_of_getElem? hx)
    have hfl : (ys ++ (xs.take i).flatMap f).length + (f x).length ≤ sizeLine := by
      have e1 := fm_take_le f xs (i + 1)
      rw [fm_take_succ f xs i x hx, List.length_append] at e1
      rw [List.length_append]; omega
    refine wpAny_mono (it.next target i (inj x) s h' tk' (fun v s2 => wpAny (model P0 w) A (do
        assign target env v
        let mut ok := true
        for c in ifs do
          if ok then ok ← isTrue c env (eval c env)
        if ok then
          t (.ref Da)
        again (.compLoop e depth (.ref I) (.ref Da) env)) (fun fin s' => match fin with | .done f => R (.ok f) s' | .again c' => c' = .compLoop e depth (.ref I) (.ref Da) env ∧ ∃ m, m < xs.length - i ∧ (∃ h' tk' i, s' = upd s h' tk' ∧ m = xs.length - i ∧ i ≤ xs.length ∧ St i h' ∧ S w g env av h' σ ((Da, .list (ys ++ (xs.take i).flatMap f)) :: μ) ∧ KeepBut (wr ++ [env.locals, Da]) h h')) (notedBy (model P0 w) A env fun e s' => R (.error e) s') s2) _ htg av (fun _ q => q) (fun a q => (hwr a q).1) sti hd sti'.dom ?_) ?_ fun _ _ x => x
    · intro v h2 tk2 st2 kb2 a2
      -- the iterator has moved
      have S2 : S w g env av h2 σ ((Da, .list (ys ++ (xs.take i).flatMap f)) :: μ) := by
        refine sti'.go2 (fun b o q => kb2 b o (fun m => by rw [(hwr b m).2.1] at q; cases q) (sti'.ext b o q)) (fun a o n q => ⟨n, kb2 a o (fun m => n (hwr a m).1) q⟩) sti'.ownL.1 (fun y c q => (sti'.ownC y c q).1) (fun a mo q => (sti'.mu a mo q).2.1) (fun a q => ?_) (fun a o q r => kb2 a o (nwr a q) r)
        by_cases m : a ∈ wr
        · exact it.alive _ _ st2 a m
        · obtain ⟨o, ho⟩ := sti'.dom a q; exact ⟨o, kb2 a o m ho⟩
      have frm : ∀ {x y : Heap} {j : Nat}, St j x → KeepBut [env.locals, Da] x y → St j y := fun st kb => it.frame _ _ _ st fun a o q r => kb a o (fun m => by
        rcases q with q | q
        · obtain ⟨_, _, m1, m2, _⟩ := hwr a q
          simp only [List.mem_cons, List.mem_nil_iff, or_false] at m
          exact m.elim m2 m1
        · simp only [List.mem_cons, List.mem_nil_iff, or_false] at m
          rcases m with m | m
          · exact q (m ▸ sti'.ownL.1)
          · exact q (m ▸ (sti'.mu Da _ (by rw [lookupM_cons, if_pos rfl])).2.1)) r
      refine wpAny_bind (hb.run g av _ s h2 tk2 v _ _ S2 a2 fun h3 tk3 S3 kb3 => ?_)
      have st3 : St (i + 1) h3 := frm st2 fun a o n r => kb3 a o (fun m => n (by simp only [List.mem_singleton] at m; simp [m])) r
      refine wpAny_bind ((hi1 _).run g av s h3 tk3 _ _ S3 fun h4 tk4 e4 => ?_)
      have st4 : St (i + 1) h4 := frm st3 fun a o _ r => e4 a o r
      have kb4 : KeepBut (wr ++ [env.locals, Da]) h h4 := fun a o n r => e4 a o (kb3 a o (fun m => n (List.mem_append_right _ (by simp only [List.mem_singleton] at m; simp [m]))) (kb2 a o (fun m => n (List.mem_append_left _ m)) (hk a o n r)))
      cases b with
      | false =>
        refine wpAny_pure ⟨rfl, xs.length - (i + 1), by omega, h4, tk4, i + 1, rfl, rfl, hlt, st4, ?_, kb4⟩
        rw [fm_take_succ f xs i x hx, hi3 rfl, List.append_nil]
        exact (S3.grow e4).weak hw
      | true =>
        refine wpAny_bind ((hi2 rfl).run g av μ Da _ s h4 tk4 _ _ (S3.grow e4) hfl hD fun h5 tk5 kb5 S5 => wpAny_pure ?_)
        refine ⟨rfl, xs.length - (i + 1), by omega, h5, tk5, i + 1, rfl, rfl, hlt, frm st4 kb5, ?_, fun a o n r => kb5 a o (fun m => n (List.mem_append_right _ m)) (kb4 a o n r)⟩
        rw [fm_take_succ f xs i x hx, ← List.append_assoc]
        exact S5.weak hw
    · intro r s1 hr
      obtain ⟨v, rfl, hv⟩ := hr
      exact wpAny_bind hv
  · have hin : i = xs.length := by omega
    subst hin
    have sti : St (xs.map inj).length h' := by rw [List.length_map]; exact sti
    refine wpAny_mono (it.done s h' tk' (fun s1 => R (.ok .next) s1) _ sti fun h2 tk2 kb2 => ?_) (fun r s1 hr => ?_) fun _ _ x => x
    · refine k h2 tk2 (fun a o n r => kb2 a o (fun m => n (List.mem_append_left _ m)) (hk a o n r)) ?_
      rw [List.take_of_length_le (Nat.le_refl _)] at sti'
      rw [List.take_of_length_le (Nat.le_refl _)] at nwr
      refine sti'.go2 (fun b o q => kb2 b o (fun m => by rw [(hwr b m).2.1] at q; cases q) (sti'.ext b o q)) (fun a o n q => ⟨fun x => n x.1, kb2 a o (fun m => n (hwr a m).1) q⟩) ⟨sti'.ownL.1, nwr _ (.inl rfl)⟩ (fun y c q => ⟨(sti'.ownC y c q).1, nwr _ (.inr (.inl ⟨y, q⟩))⟩) (fun a mo q => ⟨(sti'.mu a mo q).2.1, nwr _ (.inr (.inr ⟨mo, q⟩))⟩) (fun a q => ?_) (fun a o q r => kb2 a o (nwr a q) r)
      obtain ⟨o, ho⟩ := sti'.dom a q.1; exact ⟨o, kb2 a o q.2 ho⟩
    · obtain ⟨rfl, hr⟩ := hr
      exact wpAny_pure hr

variable {μ : Mu}
theorem src_ints1 (hh : A.handled = none) {p pos : Pos} {e : Expr} {b : Int} (hk : env.kindOf "range" = some .globalImplicit) (hv : IsGlob w "range" (.type "range")) (he : EvT w A env σ μ e (.int b)) (hs : Builtin.Range.small 0 b 1 = true)
    (hx : ∀ env, starEach [e] env = (false, eval e env) :: starEach [] env := by intros; rfl) : Src false w A env σ μ (.Call (.Name "range" p) [e] [] pos) ((zints 0 b.toNat).map .int) := by
  rw [← upTo_ints]; exact src_range1 hh hk hv (argsT_cons he argsT_nil hx) hs hx
theorem src_ints2 (hh : A.handled = none) {p pos : Pos} {e1 e2 : Expr} {a b : Int} (hk : env.kindOf "range" = some .globalImplicit) (hv : IsGlob w "range" (.type "range")) (h1 : EvT w A env σ μ e1 (.int a)) (h2 : EvT w A env σ μ e2 (.int b)) (hs : Builtin.Range.small a b 1 = true)
    (hx : ∀ env, starEach [e1, e2] env = (false, eval e1 env) :: starEach [e2] env := by intros; rfl) (hx2 : ∀ env, starEach [e2] env = (false, eval e2 env) :: starEach [] env := by intros; rfl) (hp : ∀ env pos, (backTo pos (starEach [e2] env)).any (·.1) = false := by intros; rfl) : Src false w A env σ μ (.Call (.Name "range" p) [e1, e2] [] pos) ((zints a (b - a).toNat).map .int) := by
  rw [← upTo_ints]; exact src_range2 hh hk hv (argsT_cons h1 (argsT_cons h2 argsT_nil hx2) hx) hs hx hp
theorem src_zipM {α β : Type} {f : α → D} {g : β → D} {xs : List α} {ys : List β} (hh : A.handled = none) {p pos : Pos} {e1 e2 : Expr} (hk : env.kindOf "zip" = some .globalImplicit) (hv : IsGlob w "zip" (.type "zip")) (h1 : Ev w A env σ μ e1 (.list (xs.map f))) (h2 : Ev w A env σ μ e2 (.list (ys.map g)))
    (hx : ∀ env, starEach [e1, e2] env = (false, eval e1 env) :: starEach [e2] env := by intros; rfl) (hx2 : ∀ env, starEach [e2] env = (false, eval e2 env) :: starEach [] env := by intros; rfl) (hp : ∀ env pos, (backTo pos (starEach [e2] env)).any (·.1) = false := by intros; rfl) : Src true w A env σ μ (.Call (.Name "zip" p) [e1, e2] [] pos) ((xs.zip ys).map fun p => .tuple [f p.1, g p.2]) := by
  rw [← pairs_map]; exact src_zip hh hk hv (args_cons' h1 (args_cons' h2 args_nil' hx2) hx) hx hp
/-- a list comprehension of one clause over xs: what is left of it is the clause's own work -/
theorem src_listM {α : Type} {f : α → D} {xs : List α} (hh : A.handled = none) {e : Expr} (he : Ev w A env σ μ e (.list (xs.map f))) : Src false w A env σ μ e (xs.map f) := src_list hh he

variable {g : Heap} {av₀ : AV} {s : Shared} {Q : Flow → Shared → Prop} {rest : List Stmt}
theorem go_forM {α : Type} {inj : α → D} {xs : List α} {tup : Bool} {target iter : Expr} {body : List Stmt} {pos : Pos} (hsrc : Src tup w A env σ μ iter (xs.map inj)) (htg : tup = true → ∃ es k p, target = .Tuple es k p)
    (J : List α → Sg → Mu → Prop) (Jb : Sg → Mu → Prop) (Rt : D → Prop) (h0 : J [] σ μ)
    (turn : ∀ pre x post σi μi, xs = pre ++ x :: post → J pre σi μi → ∃ σ1, Bind w A env σi target (inj x) σ1 ∧ ∀ g' av1 Q', LoopQ w env g' av1 s (J (pre ++ [x])) Jb Rt Q' → Go w A env g' av1 s Q' σ1 μi body)
    (after : ∀ σn μn, (J xs σn μn ∨ Jb σn μn) → Go w A env g av₀ s Q σn μn rest)
    (hret : ∀ r, Rt r → ∀ v h' tk', Ext g h' → At av₀ h' v r → Q (.ret v) (upd s h' tk'))
    (hs : ∀ x, foldedSetIterable iter env x = pure x := by intro _; rfl) : Go w A env g av₀ s Q σ μ (.For target iter body [] pos :: rest) := by
  refine go_for hsrc htg (fun i => J (xs.take i)) Jb Rt (by simpa using h0) (fun i d σi μi hd hj => ?_) (fun σn μn hn => after σn μn (by rw [List.length_map, List.take_of_length_le (Nat.le_refl _)] at hn; exact hn)) hret hs
  obtain ⟨x, hx, rfl⟩ : ∃ x, xs[i]? = some x ∧ d = inj x := by
    rw [List.getElem?_map] at hd
    cases q : xs[i]? with
    | none => rw [q] at hd; cases hd
    | some x => rw [q] at hd; exact ⟨x, rfl, (Option.some.inj hd).symm⟩
  have hlt : i < xs.length := by
    rcases Nat.lt_or_ge i xs.length with q | q
    · exact q
    · rw [List.getElem?_eq_none q] at hx; cases hx
  have e1 : xs = xs.take i ++ x :: xs.drop (i + 1) := by
    have : xs[i] = x := by rw [List.getElem?_eq_getElem hlt] at hx; exact Option.some.inj hx
    rw [← this, ← List.drop_eq_getElem_cons hlt, List.take_append_drop]
  obtain ⟨σ1, hb, hgo⟩ := turn (xs.take i) x (xs.drop (i + 1)) σi μi e1 hj
  refine ⟨σ1, hb, fun g' av1 Q' hq => hgo g' av1 Q' ?_⟩
  have e2 : xs.take (i + 1) = xs.take i ++ [x] := by rw [List.take_add_one, hx]; rfl
  rw [e2] at hq
  exact hq
end
end
section

def SeesAll (scope : Scope) (env : Env) (cl : List (Str × Addr)) (σ : Sg) : Sg → Prop
  | [] => True
  | (x, sv) :: r => (σ.lookup x = some sv ∧ env.kindOf x = some .cell ∧ (relabel scope env).names.lookup x = some .cell ∧ (cl.lookup x).isSome = true) ∧ SeesAll scope env cl σ r
def ClAll (env : Env) : List (Str × Addr) → Prop
  | [] => True
  | (x, c) :: r => env.cells.lookup x = some c ∧ ClAll env r
def SubAll (σ' : Sg) : Sg → Prop
  | [] => True
  | (x, sv) :: r => σ'.lookup x = some sv ∧ SubAll σ' r
theorem SeesAll.get {scope env cl σ} : ∀ {σc : Sg}, SeesAll scope env cl σ σc → ∀ x sv, σc.lookup x = some sv → σ.lookup x = some sv ∧ env.kindOf x = some .cell ∧ (relabel scope env).names.lookup x = some .cell ∧ ∃ c, cl.lookup x = some c
  | [], _, x, sv, e => by simp at e
  | (y, u) :: r, h, x, sv, e => by
    by_cases q : x = y
    · subst q; rw [lookup_cons_eq] at e; cases e
      exact ⟨h.1.1, h.1.2.1, h.1.2.2.1, Option.isSome_iff_exists.mp h.1.2.2.2⟩
    · rw [lookup_cons_ne q] at e; exact SeesAll.get h.2 x sv e
theorem ClAll.get {env} : ∀ {cl : List (Str × Addr)}, ClAll env cl → ∀ x c, cl.lookup x = some c → env.cells.lookup x = some c
  | [], _, x, sv, e => by simp at e
  | (y, u) :: r, h, x, sv, e => by
    by_cases q : x = y
    · subst q; rw [lookup_cons_eq] at e; cases e; exact h.1
    · rw [lookup_cons_ne q] at e; exact ClAll.get h.2 x sv e
theorem SubAll.get {σ'} : ∀ {σ : Sg}, SubAll σ' σ → ∀ x sv, σ.lookup x = some sv → σ'.lookup x = some sv
  | [], _, x, sv, e => by simp at e
  | (y, u) :: r, h, x, sv, e => by
    by_cases q : x = y
    · subst q; rw [lookup_cons_eq] at e; cases e; exact h.1
    · rw [lookup_cons_ne q] at e; exact SubAll.get h.2 x sv e
theorem sees_of {scope env cl σ σc} (h : SeesAll scope env cl σ σc) (k : ClAll env cl) : Sees env scope cl σ σc := ⟨h.get, k.get⟩

theorem fm_filter {α : Type} (p : α → Bool) (f : α → D) (xs : List α) : (xs.flatMap fun x => if p x then [f x] else []) = (xs.filter p).map f := by
  induction xs with
  | nil => rfl
  | cons x xs ih =>
    rw [List.flatMap_cons, ih]
    cases h : p x <;> simp [h]

section
variable {w : World} {A : Around} {env : Env} {σ σc : Sg} {μ : Mu}

/-- one clause: the turns -/
theorem loop1 {α : Type} {inj : α → D} {p : α → Bool} {f : α → D} {xs : List α} {tup : Bool} {elt target iter : Expr} {ifs : List Expr} {scope : Scope} {pos : Pos}
    (htg : tup = true → ∃ es k p, target = .Tuple es k p)
    (item : ∀ x, x ∈ xs → ∃ σ1, BindL w A env σc target (inj x) σ1 ∧ SubAll σ1 σc ∧ (∀ μ, TrIfs w A env σ1 μ ifs (p x)) ∧ (p x = true → ∀ μ, Ev w A env σ1 μ elt (f x))) :
    LoopOk w A env σc (.ListComp elt [⟨target, iter, ifs, 0⟩] scope pos) 0 tup (xs.map inj) ((xs.filter p).map f) := by
  rw [← fm_filter]
  refine loop_map (fun _ _ => rfl) (fun _ _ => rfl) (fun _ _ => rfl) (fun _ _ => rfl) htg fun x hx => ?_
  obtain ⟨σ1, h1, h2, h3, h4⟩ := item x hx
  exact ⟨σ1, p x, h1, h2.get, h3, fun e => by rw [e]; exact body_emit (h4 e), fun e => by rw [e]; rfl⟩
theorem ev_comp1 {α : Type} {inj : α → D} {p : α → Bool} {f : α → D} {xs : List α} {tup : Bool} {elt target iter : Expr} {ifs : List Expr} {scope : Scope} {pos : Pos} {cl : List (Str × Addr)}
    (hsrc : Src tup w A env σ μ iter (xs.map inj)) (hclos : closureFor scope env = pure cl) (hsa : SeesAll scope env cl σ σc) (hca : ClAll env cl)
    (hz : xs.length ≤ sizeLine) (item : ∀ C x, x ∈ xs → ∃ σ1, BindL w A (compEnvC scope cl C env) σc target (inj x) σ1 ∧ SubAll σ1 σc ∧ (∀ μ, TrIfs w A (compEnvC scope cl C env) σ1 μ ifs (p x)) ∧ (p x = true → ∀ μ, Ev w A (compEnvC scope cl C env) σ1 μ elt (f x)))
    (htg : tup = true → ∃ es k p, target = .Tuple es k p := by first | exact fun _ => ⟨_, _, _, rfl⟩ | (intro h; cases h))
    (hcell : ∀ y ∈ scope.names, y.2 ≠ .cell := by decide) (hk : scope.kind = .function := by rfl)
    (hnames : ∀ y ∈ scope.names, y.2 = .local → scope.names.lookup y.1 = some .local := by decide) (hs : ∀ x, foldedSetIterable iter env x = pure x := by intro _; rfl) :
    Ev w A env σ μ (.ListComp elt [⟨target, iter, ifs, 0⟩] scope pos) (.list ((xs.filter p).map f)) :=
  ev_comp hsrc hclos (sees_of hsa hca) hcell hk hnames (fun C => loop1 htg (item C)) (by rw [List.length_map]; exact Nat.le_trans (List.length_filter_le _ _) hz) hs
theorem turn2 {elt target iter target2 iter2 : Expr} {scope : Scope} {pos : Pos} (it acc : Value) : compTurn (.ListComp elt [⟨target, iter, [], 0⟩, ⟨target2, iter2, [], 0⟩] scope pos) 0 it acc env = (do
      standAt iter.pos
      match ← pyNext it with
      | none => pure (.done .next)
      | some v =>
        letOwnedTupleGo target it v
        assign target env v
        let mut ok := true
        for c in ([] : List Expr) do
          if ok then ok ← isTrue c env (eval c env)
        if ok then
          (fun acc => do
        let x ← eval iter2 env
        standAt iter2.pos
        let x ← foldedSetIterable iter2 env x
        let _ ← runOwn (.compStart (.ListComp elt [⟨target, iter, [], 0⟩, ⟨target2, iter2, [], 0⟩] scope pos) 1 (← holding [x] (pyIter x)) acc env) env) acc
        again (.compLoop (.ListComp elt [⟨target, iter, [], 0⟩, ⟨target2, iter2, [], 0⟩] scope pos) 0 it acc env)) := by
  unfold compTurn
  simp only [List.getElem?_cons_zero, List.getElem?_cons_succ, bne_self_eq_false, Bool.false_eq_true, if_false, bind_assoc, pure_bind]
  rfl
/-- one clause, no test -/
theorem loop1m {α : Type} {inj : α → D} {f : α → D} {xs : List α} {tup : Bool} {elt target iter : Expr} {scope : Scope} {pos : Pos}
    (htg : tup = true → ∃ es k p, target = .Tuple es k p)
    (item : ∀ x, x ∈ xs → ∃ σ1, BindL w A env σc target (inj x) σ1 ∧ SubAll σ1 σc ∧ ∀ μ, Ev w A env σ1 μ elt (f x)) :
    LoopOk w A env σc (.ListComp elt [⟨target, iter, [], 0⟩] scope pos) 0 tup (xs.map inj) (xs.map f) := by
  have := loop1 (w := w) (A := A) (env := env) (σc := σc) (inj := inj) (p := fun _ => true) (f := f) (xs := xs) (tup := tup) (elt := elt) (target := target) (iter := iter) (ifs := []) (scope := scope) (pos := pos) htg fun x hx => by
    obtain ⟨σ1, h1, h2, h3⟩ := item x hx; exact ⟨σ1, h1, h2, fun _ => ifs_nil, fun _ => h3⟩
  rw [List.filter_eq_self.mpr (fun _ _ => rfl)] at this; exact this
theorem ev_comp1m {α : Type} {inj : α → D} {f : α → D} {xs : List α} {tup : Bool} {elt target iter : Expr} {scope : Scope} {pos : Pos} {cl : List (Str × Addr)}
    (hsrc : Src tup w A env σ μ iter (xs.map inj)) (hclos : closureFor scope env = pure cl) (hsa : SeesAll scope env cl σ σc) (hca : ClAll env cl)
    (hz : xs.length ≤ sizeLine) (item : ∀ C x, x ∈ xs → ∃ σ1, BindL w A (compEnvC scope cl C env) σc target (inj x) σ1 ∧ SubAll σ1 σc ∧ ∀ μ, Ev w A (compEnvC scope cl C env) σ1 μ elt (f x))
    (htg : tup = true → ∃ es k p, target = .Tuple es k p := by first | exact fun _ => ⟨_, _, _, rfl⟩ | (intro h; cases h))
    (hcell : ∀ y ∈ scope.names, y.2 ≠ .cell := by decide) (hk : scope.kind = .function := by rfl)
    (hnames : ∀ y ∈ scope.names, y.2 = .local → scope.names.lookup y.1 = some .local := by decide) (hs : ∀ x, foldedSetIterable iter env x = pure x := by intro _; rfl) :
    Ev w A env σ μ (.ListComp elt [⟨target, iter, [], 0⟩] scope pos) (.list (xs.map f)) :=
  ev_comp hsrc hclos (sees_of hsa hca) hcell hk hnames (fun C => loop1m htg (item C)) (by rw [List.length_map]; exact hz) hs
/-- two clauses -/
theorem loop2 {α β : Type} {inj : α → D} {injB : β → D} {ys : α → List β} {f : α → β → D} {xs : List α} {tup : Bool} {elt target iter target2 iter2 : Expr} {scope : Scope} {pos : Pos}
    (htg : tup = true → ∃ es k p, target = .Tuple es k p)
    (hs2 : ∀ x, foldedSetIterable iter2 env x = pure x)
    (item : ∀ x, x ∈ xs → ∃ σ1, BindL w A env σc target (inj x) σ1 ∧ SubAll σ1 σc ∧ (∀ μ, Src false w A env σ1 μ iter2 ((ys x).map injB)) ∧
      ∀ y, y ∈ ys x → ∃ σ2, BindL w A env σ1 target2 (injB y) σ2 ∧ SubAll σ2 σ1 ∧ ∀ μ, Ev w A env σ2 μ elt (f x y)) :
    LoopOk w A env σc (.ListComp elt [⟨target, iter, [], 0⟩, ⟨target2, iter2, [], 0⟩] scope pos) 0 tup (xs.map inj) (xs.flatMap fun x => (ys x).map (f x)) := by
  refine loop_map (ifs := []) (target := target) (t := fun acc => do
        let x ← eval iter2 env
        standAt iter2.pos
        let x ← foldedSetIterable iter2 env x
        let _ ← runOwn (.compStart (.ListComp elt [⟨target, iter, [], 0⟩, ⟨target2, iter2, [], 0⟩] scope pos) 1 (← holding [x] (pyIter x)) acc env) env) (p := iter.pos) (fun _ _ => turn2 _ _) (fun _ _ => rfl) (fun _ _ => rfl) (fun _ _ => rfl) htg fun x hx => ?_
  obtain ⟨σ1, h1, h2, h3, h4⟩ := item x hx
  refine ⟨σ1, true, h1, h2.get, fun _ => ifs_nil, fun _ => ?_, fun e => by cases e⟩
  have loop : LoopOk w A env σ1 (.ListComp elt [⟨target, iter, [], 0⟩, ⟨target2, iter2, [], 0⟩] scope pos) 1 false ((ys x).map injB) ((ys x).map (f x)) := by
    rw [← flatMap_one (f x)]
    refine loop_map (ifs := []) (target := target2) (t := fun acc => do let _ ← call (.builtin "list.append") [acc, ← eval elt env]) (p := iter2.pos) (fun _ _ => rfl) (fun _ _ => rfl) (fun _ _ => rfl) (fun _ _ => rfl) (fun e => by cases e) fun y hy => ?_
    obtain ⟨σ2, k1, k2, k3⟩ := h4 y hy
    exact ⟨σ2, true, k1, k2.get, fun _ => ifs_nil, fun _ => body_emit k3, fun e => by cases e⟩
  exact body_inner (g' := ⟨target2, iter2, [], 0⟩) h3 loop rfl hs2 (fun _ _ => rfl) (fun _ _ => rfl) (fun _ _ => rfl)
theorem ev_comp2 {α β : Type} {inj : α → D} {injB : β → D} {ys : α → List β} {f : α → β → D} {xs : List α} {tup : Bool} {elt target iter target2 iter2 : Expr} {scope : Scope} {pos : Pos} {cl : List (Str × Addr)}
    (hsrc : Src tup w A env σ μ iter (xs.map inj)) (hclos : closureFor scope env = pure cl) (hsa : SeesAll scope env cl σ σc) (hca : ClAll env cl)
    (hz : (xs.flatMap fun x => (ys x).map (f x)).length ≤ sizeLine)
    (item : ∀ C x, x ∈ xs → ∃ σ1, BindL w A (compEnvC scope cl C env) σc target (inj x) σ1 ∧ SubAll σ1 σc ∧ (∀ μ, Src false w A (compEnvC scope cl C env) σ1 μ iter2 ((ys x).map injB)) ∧
      ∀ y, y ∈ ys x → ∃ σ2, BindL w A (compEnvC scope cl C env) σ1 target2 (injB y) σ2 ∧ SubAll σ2 σ1 ∧ ∀ μ, Ev w A (compEnvC scope cl C env) σ2 μ elt (f x y))
    (htg : tup = true → ∃ es k p, target = .Tuple es k p := by first | exact fun _ => ⟨_, _, _, rfl⟩ | (intro h; cases h))
    (hcell : ∀ y ∈ scope.names, y.2 ≠ .cell := by decide) (hk : scope.kind = .function := by rfl)
    (hnames : ∀ y ∈ scope.names, y.2 = .local → scope.names.lookup y.1 = some .local := by decide) (hs : ∀ x, foldedSetIterable iter env x = pure x := by intro _; rfl)
    (hs2 : ∀ C x, foldedSetIterable iter2 (compEnvC scope cl C env) x = pure x := by intro _ _; rfl) :
    Ev w A env σ μ (.ListComp elt [⟨target, iter, [], 0⟩, ⟨target2, iter2, [], 0⟩] scope pos) (.list (xs.flatMap fun x => (ys x).map (f x))) :=
  ev_comp hsrc hclos (sees_of hsa hca) hcell hk hnames (fun C => loop2 htg (hs2 C) (item C)) hz hs

variable {g : Heap} {av₀ : AV} {s : Shared} {Q : Flow → Shared → Prop} {rest : List Stmt}
theorem go_comp1 {x : Str} {px apos : Pos} {α : Type} {inj : α → D} {p : α → Bool} {f : α → D} {xs : List α} {tup : Bool} {elt target iter : Expr} {ifs : List Expr} {scope : Scope} {pos : Pos} {cl : List (Str × Addr)}
    (hsrc : Src tup w A env σ μ iter (xs.map inj)) (hclos : closureFor scope env = pure cl) (hsa : SeesAll scope env cl σ σc) (hca : ClAll env cl)
    (hz : xs.length ≤ sizeLine) (item : ∀ C x, x ∈ xs → ∃ σ1, BindL w A (compEnvC scope cl C env) σc target (inj x) σ1 ∧ SubAll σ1 σc ∧ (∀ μ, TrIfs w A (compEnvC scope cl C env) σ1 μ ifs (p x)) ∧ (p x = true → ∀ μ, Ev w A (compEnvC scope cl C env) σ1 μ elt (f x)))
    (hx : env.kindOf x = some .local) (k : Go w A env g av₀ s Q ((x, .d (.list ((xs.filter p).map f))) :: σ) μ rest)
    (htg : tup = true → ∃ es k p, target = .Tuple es k p := by first | exact fun _ => ⟨_, _, _, rfl⟩ | (intro h; cases h))
    (hcell : ∀ y ∈ scope.names, y.2 ≠ .cell := by decide) (hk : scope.kind = .function := by rfl)
    (hnames : ∀ y ∈ scope.names, y.2 = .local → scope.names.lookup y.1 = some .local := by decide) (hs : ∀ x, foldedSetIterable iter env x = pure x := by intro _; rfl)
    (hsw : swapsWith (.ListComp elt [⟨target, iter, ifs, 0⟩] scope pos) (some (.Name x px)) apos.line env = pure true := by rfl) :
    Go w A env g av₀ s Q σ μ (.Assign [.Name x px] (.ListComp elt [⟨target, iter, ifs, 0⟩] scope pos) apos :: rest) :=
  go_comp hsrc hclos (sees_of hsa hca) hcell hk hnames (fun C => loop1 htg (item C)) (by rw [List.length_map]; exact Nat.le_trans (List.length_filter_le _ _) hz) hx k hs hsw
theorem go_comp1m {x : Str} {px apos : Pos} {α : Type} {inj : α → D} {f : α → D} {xs : List α} {tup : Bool} {elt target iter : Expr} {scope : Scope} {pos : Pos} {cl : List (Str × Addr)}
    (hsrc : Src tup w A env σ μ iter (xs.map inj)) (hclos : closureFor scope env = pure cl) (hsa : SeesAll scope env cl σ σc) (hca : ClAll env cl)
    (hz : xs.length ≤ sizeLine) (item : ∀ C x, x ∈ xs → ∃ σ1, BindL w A (compEnvC scope cl C env) σc target (inj x) σ1 ∧ SubAll σ1 σc ∧ ∀ μ, Ev w A (compEnvC scope cl C env) σ1 μ elt (f x))
    (hx : env.kindOf x = some .local) (k : Go w A env g av₀ s Q ((x, .d (.list (xs.map f))) :: σ) μ rest)
    (htg : tup = true → ∃ es k p, target = .Tuple es k p := by first | exact fun _ => ⟨_, _, _, rfl⟩ | (intro h; cases h))
    (hcell : ∀ y ∈ scope.names, y.2 ≠ .cell := by decide) (hk : scope.kind = .function := by rfl)
    (hnames : ∀ y ∈ scope.names, y.2 = .local → scope.names.lookup y.1 = some .local := by decide) (hs : ∀ x, foldedSetIterable iter env x = pure x := by intro _; rfl)
    (hsw : swapsWith (.ListComp elt [⟨target, iter, [], 0⟩] scope pos) (some (.Name x px)) apos.line env = pure true := by rfl) :
    Go w A env g av₀ s Q σ μ (.Assign [.Name x px] (.ListComp elt [⟨target, iter, [], 0⟩] scope pos) apos :: rest) :=
  go_comp hsrc hclos (sees_of hsa hca) hcell hk hnames (fun C => loop1m htg (item C)) (by rw [List.length_map]; exact hz) hx k hs hsw
theorem go_comp2 {x : Str} {px apos : Pos} {α β : Type} {inj : α → D} {injB : β → D} {ys : α → List β} {f : α → β → D} {xs : List α} {tup : Bool} {elt target iter target2 iter2 : Expr} {scope : Scope} {pos : Pos} {cl : List (Str × Addr)}
    (hsrc : Src tup w A env σ μ iter (xs.map inj)) (hclos : closureFor scope env = pure cl) (hsa : SeesAll scope env cl σ σc) (hca : ClAll env cl)
    (hz : (xs.flatMap fun x => (ys x).map (f x)).length ≤ sizeLine)
    (item : ∀ C x, x ∈ xs → ∃ σ1, BindL w A (compEnvC scope cl C env) σc target (inj x) σ1 ∧ SubAll σ1 σc ∧ (∀ μ, Src false w A (compEnvC scope cl C env) σ1 μ iter2 ((ys x).map injB)) ∧
      ∀ y, y ∈ ys x → ∃ σ2, BindL w A (compEnvC scope cl C env) σ1 target2 (injB y) σ2 ∧ SubAll σ2 σ1 ∧ ∀ μ, Ev w A (compEnvC scope cl C env) σ2 μ elt (f x y))
    (hx : env.kindOf x = some .local) (k : Go w A env g av₀ s Q ((x, .d (.list (xs.flatMap fun x => (ys x).map (f x)))) :: σ) μ rest)
    (htg : tup = true → ∃ es k p, target = .Tuple es k p := by first | exact fun _ => ⟨_, _, _, rfl⟩ | (intro h; cases h))
    (hcell : ∀ y ∈ scope.names, y.2 ≠ .cell := by decide) (hk : scope.kind = .function := by rfl)
    (hnames : ∀ y ∈ scope.names, y.2 = .local → scope.names.lookup y.1 = some .local := by decide) (hs : ∀ x, foldedSetIterable iter env x = pure x := by intro _; rfl)
    (hs2 : ∀ C x, foldedSetIterable iter2 (compEnvC scope cl C env) x = pure x := by intro _ _; rfl)
    (hsw : swapsWith (.ListComp elt [⟨target, iter, [], 0⟩, ⟨target2, iter2, [], 0⟩] scope pos) (some (.Name x px)) apos.line env = pure true := by rfl) :
    Go w A env g av₀ s Q σ μ (.Assign [.Name x px] (.ListComp elt [⟨target, iter, [], 0⟩, ⟨target2, iter2, [], 0⟩] scope pos) apos :: rest) :=
  go_comp hsrc hclos (sees_of hsa hca) hcell hk hnames (fun C => loop2 htg (hs2 C) (item C)) hz hx k hs hsw
end
section
variable {w : World} {A : Around} {env : Env} {σ : Sg} {μ : Mu}
theorem gl_len : IsGlob w "len" (.builtin "len") := .inr ⟨rfl, by decide, rfl⟩
theorem gl_sum : IsGlob w "sum" (.builtin "sum") := .inr ⟨rfl, by decide, rfl⟩
theorem gl_min : IsGlob w "min" (.builtin "min") := .inr ⟨rfl, by decide, rfl⟩
theorem gl_max : IsGlob w "max" (.builtin "max") := .inr ⟨rfl, by decide, rfl⟩
theorem gl_range : IsGlob w "range" (.type "range") := .inr ⟨rfl, by decide, rfl⟩
theorem gl_zip : IsGlob w "zip" (.type "zip") := .inr ⟨rfl, by decide, rfl⟩
theorem gl_list : IsGlob w "list" (.type "list") := .inr ⟨rfl, by decide, rfl⟩
theorem gl_tuple : IsGlob w "tuple" (.type "tuple") := .inr ⟨rfl, by decide, rfl⟩
theorem gl_set : IsGlob w "set" (.type "set") := .inr ⟨rfl, by decide, rfl⟩
theorem small_le {a b : Int} (h : -1000000 ≤ a ∧ a ≤ 1000000 ∧ -1000000 ≤ b ∧ b ≤ 1000000) : Builtin.Range.small a b 1 = true := small_one (by omega) (by omega) (by omega) (by omega)
/-- row[i] -/
abbrev ix (row : List Int) (i : Int) : Int := row.getD i.toNat 0
theorem ix_get {row : List Int} {i : Int} (h0 : 0 ≤ i) (h1 : i < row.length) : (row.map D.int)[i.toNat]? = some (.int (ix row i)) := by
  have h : i.toNat < row.length := by omega
  rw [List.getElem?_map, List.getElem?_eq_getElem h]; simp [ix, List.getD, h]
theorem item_ix {row : List Int} {i : Int} (h0 : 0 ≤ i) (h1 : i < row.length) (hz : row.length ≤ 1000000) : ItemD w A (.list (row.map .int)) (.int i) (.int (ix row i)) := ItemD.list h0 (by omega) (ix_get h0 h1)
theorem ev_len {α : Type} {f : α → D} {xs : List α} {p pos : Pos} {e : Expr} (hk : env.kindOf "len" = some .globalImplicit) (he : EvT w A env σ μ e (.list (xs.map f))) (hz : xs.length ≤ 1000000)
    (hx : ∀ env, starEach [e] env = (false, eval e env) :: starEach [] env := by intros; rfl)
    (hq : ∀ env, eval (.Call (.Name "len" p) [e] [] pos) env = (do callWith pos (← eval (.Name "len" p) env) [] (backTo pos (starEach [e] env)) (backToKw pos (keywordEach [] env))) := by intros; rfl) : Ev w A env σ μ (.Call (.Name "len" p) [e] [] pos) (.int xs.length) := by
  have c := call_lenL (w := w) (A := A) (ds := xs.map f) (by rw [List.length_map, sizeLine_eq]; omega)
  rw [List.length_map] at c
  exact ev_callB hk gl_len (argsT_cons he argsT_nil hx) c (hx := hx) (hq := hq)
end
end
section

def MuAll (μ : Mu) : Mu → Prop
  | [] => True
  | (l, mo) :: r => μ.lookup l = some mo ∧ MuAll μ r
theorem MuAll.get {μ} : ∀ {ν : Mu}, MuAll μ ν → ∀ x sv, ν.lookup x = some sv → μ.lookup x = some sv
  | [], _, x, sv, e => by simp at e
  | (y, u) :: r, h, x, sv, e => by
    rw [lookupM_cons] at e
    by_cases q : x = y
    · subst q; rw [if_pos rfl] at e; cases e; exact h.1
    · rw [if_neg q] at e; exact MuAll.get h.2 x sv e
theorem mu_self {l : Addr} {mo : MO} {μ : Mu} : List.lookup l ((l, mo) :: μ) = some mo := by rw [lookupM_cons, if_pos rfl]
theorem mu_skip {a l : Addr} {mo : MO} {μ : Mu} {r : Option MO} (h : a ≠ l) (e : List.lookup a μ = r) : List.lookup a ((l, mo) :: μ) = r := by rw [lookupM_cons, if_neg h]; exact e
theorem mu_put {l : Addr} {mo : MO} {μ : Mu} : ∀ a m, List.lookup a ((l, mo) :: μ) = some m → (a = l ∧ m = mo) ∨ (a ≠ l ∧ μ.lookup a = some m) := fun a m q => by
  rw [lookupM_cons] at q
  split at q
  · rename_i e; cases q; exact .inl ⟨e, rfl⟩
  · rename_i e; exact .inr ⟨e, q⟩

/-- a parameter's kind in the def's scope -/
def KOk (fd : FuncData) (x : Str) : Prop := ∀ k : Nat, fd.scope.names.lookup x = some .local ∨ (fd.scope.names.lookup x = some .cell ∧ ((cellsFrom k fd.scope.names []).lookup x).isSome = true)
section
variable {w : World} {f : Addr} {n : Nat} {fd : FuncData} {oc : Value} {od : Option Addr} {osl : Array (Option Value)} {body : List Stmt}
theorem fn_enter1 {a : Str} {d r : D}
    (ka : KOk fd a)
    (walk : ∀ (A : Around) (L : Addr) (g : Heap) (av : AV) (s : Shared), AOk A n → Go w A (callEnvC fd L f) g av s (PostR s g av r) [(a, .d d)] [] body)
    (hK : (Mine.hd.heap_1 w.params).lookup f = some ⟨oc, od, .func fd, osl⟩ := by rfl) (hcd : codeIn (Mine.hd.heap_1 w.params) fd.code fd.qualname = true := by rfl) (hbody : fd.body = .stmts body := by rfl) (hclo : fd.closure = [] := by rfl)
    (hbind : ∀ v, bindArgs fd ⟨[v], []⟩ = pure [(a, v)] := by intros; rfl)
    (hgl : fd.globals = mainGlobals := by rfl) (hbl : fd.builtins = builtinsNs := by rfl)
    (hco : fd.scope.isCoroutine = false := by rfl) (hgen : fd.scope.isGenerator = false := by rfl) (hk : fd.scope.kind = .function := by rfl) : Fn w f (n + 1) [d] r :=
  fn_enter (ns := [a]) hK hcd hbody hclo (fun vs hv => by obtain ⟨v, rfl⟩ := List.length_eq_one_iff.mp hv; exact hbind v) rfl (by simp) (fun k x hx => by cases List.mem_singleton.mp hx; exact ka k) hgl hbl hco hgen hk walk
theorem fn_enter2 {a b : Str} {d e r : D} (hab : a ≠ b)
    (ka : KOk fd a) (kb : KOk fd b)
    (walk : ∀ (A : Around) (L : Addr) (g : Heap) (av : AV) (s : Shared), AOk A n → Go w A (callEnvC fd L f) g av s (PostR s g av r) [(a, .d d), (b, .d e)] [] body)
    (hK : (Mine.hd.heap_1 w.params).lookup f = some ⟨oc, od, .func fd, osl⟩ := by rfl) (hcd : codeIn (Mine.hd.heap_1 w.params) fd.code fd.qualname = true := by rfl) (hbody : fd.body = .stmts body := by rfl) (hclo : fd.closure = [] := by rfl)
    (hbind : ∀ v u, bindArgs fd ⟨[v, u], []⟩ = pure [(a, v), (b, u)] := by intros; rfl)
    (hgl : fd.globals = mainGlobals := by rfl) (hbl : fd.builtins = builtinsNs := by rfl)
    (hco : fd.scope.isCoroutine = false := by rfl) (hgen : fd.scope.isGenerator = false := by rfl) (hk : fd.scope.kind = .function := by rfl) : Fn w f (n + 1) [d, e] r :=
  fn_enter (ns := [a, b]) hK hcd hbody hclo (fun vs hv => by
    match vs, hv with
    | [v, u], _ => exact hbind v u) rfl (by simp [hab]) (fun k x hx => by
    simp only [List.mem_cons, List.mem_nil_iff, or_false] at hx
    rcases hx with rfl | rfl
    · exact ka k
    · exact kb k) hgl hbl hco hgen hk walk
theorem fn_enter3 {a b c : Str} {d e d3 r : D} (hab : a ≠ b) (hac : a ≠ c) (hbc : b ≠ c)
    (ka : KOk fd a) (kb : KOk fd b) (kc : KOk fd c)
    (walk : ∀ (A : Around) (L : Addr) (g : Heap) (av : AV) (s : Shared), AOk A n → Go w A (callEnvC fd L f) g av s (PostR s g av r) [(a, .d d), (b, .d e), (c, .d d3)] [] body)
    (hK : (Mine.hd.heap_1 w.params).lookup f = some ⟨oc, od, .func fd, osl⟩ := by rfl) (hcd : codeIn (Mine.hd.heap_1 w.params) fd.code fd.qualname = true := by rfl) (hbody : fd.body = .stmts body := by rfl) (hclo : fd.closure = [] := by rfl)
    (hbind : ∀ v u t, bindArgs fd ⟨[v, u, t], []⟩ = pure [(a, v), (b, u), (c, t)] := by intros; rfl)
    (hgl : fd.globals = mainGlobals := by rfl) (hbl : fd.builtins = builtinsNs := by rfl)
    (hco : fd.scope.isCoroutine = false := by rfl) (hgen : fd.scope.isGenerator = false := by rfl) (hk : fd.scope.kind = .function := by rfl) : Fn w f (n + 1) [d, e, d3] r :=
  fn_enter (ns := [a, b, c]) hK hcd hbody hclo (fun vs hv => by
    match vs, hv with
    | [v, u, t], _ => exact hbind v u t) rfl (by simp [hab, hac, hbc]) (fun k x hx => by
    simp only [List.mem_cons, List.mem_nil_iff, or_false] at hx
    rcases hx with rfl | rfl | rfl
    · exact ka k
    · exact kb k
    · exact kc k) hgl hbl hco hgen hk walk
end

section
variable {w : World} {A : Around} {env : Env} {σ : Sg} {μ : Mu} {g : Heap} {av₀ : AV} {s : Shared} {Q : Flow → Shared → Prop} {rest : List Stmt} {Jn Jb : Sg → Mu → Prop} {Rt : D → Prop}
theorem LoopQ.go_nil (hq : LoopQ w env g av₀ s Jn Jb Rt Q) (hj : Jn σ μ) : Go w A env g av₀ s Q σ μ [] := KL.go_nil (hq.next _ _ hj)
theorem LoopQ.go_cont {pos : Pos} (hq : LoopQ w env g av₀ s Jn Jb Rt Q) (hj : Jn σ μ) : Go w A env g av₀ s Q σ μ (.Continue pos :: rest) := KL.go_cont (hq.cont _ _ hj)
theorem LoopQ.go_brk {pos : Pos} (hq : LoopQ w env g av₀ s Jn Jb Rt Q) (hj : Jb σ μ) : Go w A env g av₀ s Q σ μ (.Break pos :: rest) := KL.go_brk (hq.brk _ _ hj)
theorem LoopQ.go_ret {pos : Pos} {e : Expr} {d : D} (hq : LoopQ w env g av₀ s Jn Jb Rt Q) (he : Ev w A env σ μ e d) (hr : Rt d) : Go w A env g av₀ s Q σ μ (.Return (some e) pos :: rest) := KL.go_ret he fun v h' tk' e a => hq.ret _ hr v h' tk' e a
/-- the rest from a given picture of the frame -/
theorem go_as {σ' : Sg} {μ' : Mu} {sts : List Stmt} (h1 : SubAll σ σ') (h2 : MuAll μ μ') (k : Go w A env g av₀ s Q σ' μ' sts) : Go w A env g av₀ s Q σ μ sts := go_weak h1.get h2.get k

theorem go_forS {α : Type} {inj : α → D} {xs : List α} {tup : Bool} {target iter : Expr} {body : List Stmt} {pos : Pos} (hsrc : Src tup w A env σ μ iter (xs.map inj))
    (σf : List α → Sg) (μf : List α → Mu) (σb : Sg) (μb : Mu) (Rt : D → Prop) (h0 : SubAll σ (σf [])) (m0 : MuAll μ (μf []))
    (turn : ∀ pre x post, xs = pre ++ x :: post → ∃ σ1, Bind w A env (σf pre) target (inj x) σ1 ∧ ∀ g' av1 Q', LoopQ w env g' av1 s (fun σ' μ' => SubAll σ' (σf (pre ++ [x])) ∧ MuAll μ' (μf (pre ++ [x]))) (fun σ' μ' => SubAll σ' σb ∧ MuAll μ' μb) Rt Q' → Go w A env g' av1 s Q' σ1 (μf pre) body)
    (after : Go w A env g av₀ s Q (σf xs) (μf xs) rest)
    (afterB : Go w A env g av₀ s Q σb μb rest)
    (hret : ∀ r, Rt r → ∀ v h' tk', Ext g h' → At av₀ h' v r → Q (.ret v) (upd s h' tk'))
    (htg : tup = true → ∃ es k p, target = .Tuple es k p := by first | exact fun _ => ⟨_, _, _, rfl⟩ | (intro h; cases h))
    (hs : ∀ x, foldedSetIterable iter env x = pure x := by intro _; rfl) : Go w A env g av₀ s Q σ μ (.For target iter body [] pos :: rest) := by
  refine go_forM hsrc htg (fun pre σ' μ' => SubAll σ' (σf pre) ∧ MuAll μ' (μf pre)) (fun σ' μ' => SubAll σ' σb ∧ MuAll μ' μb) Rt ⟨h0, m0⟩ (fun pre x post σi μi hx hj => ?_) (fun σn μn hn => ?_) hret hs
  · obtain ⟨σ1, hb, hgo⟩ := turn pre x post hx
    exact ⟨σ1, ⟨fun g av μ s h tk v Q E st a k => hb.run g av μ s h tk v Q E (st.weak hj.1.get) a k⟩, fun g' av1 Q' hq => go_weak (fun _ _ q => q) hj.2.get (hgo g' av1 Q' hq)⟩
  · rcases hn with ⟨a, b⟩ | ⟨a, b⟩
    · exact go_as a b after
    · exact go_as a b afterB
theorem go_forN {α : Type} {inj : α → D} {xs : List α} {tup : Bool} {target iter : Expr} {body : List Stmt} {pos : Pos} (hsrc : Src tup w A env σ μ iter (xs.map inj))
    (σf : List α → Sg) (μf : List α → Mu) (Rt : D → Prop) (h0 : SubAll σ (σf [])) (m0 : MuAll μ (μf []))
    (turn : ∀ pre x post, xs = pre ++ x :: post → ∃ σ1, Bind w A env (σf pre) target (inj x) σ1 ∧ ∀ g' av1 Q', LoopQ w env g' av1 s (fun σ' μ' => SubAll σ' (σf (pre ++ [x])) ∧ MuAll μ' (μf (pre ++ [x]))) (fun _ _ => False) Rt Q' → Go w A env g' av1 s Q' σ1 (μf pre) body)
    (after : Go w A env g av₀ s Q (σf xs) (μf xs) rest)
    (hret : ∀ r, Rt r → ∀ v h' tk', Ext g h' → At av₀ h' v r → Q (.ret v) (upd s h' tk'))
    (htg : tup = true → ∃ es k p, target = .Tuple es k p := by first | exact fun _ => ⟨_, _, _, rfl⟩ | (intro h; cases h))
    (hs : ∀ x, foldedSetIterable iter env x = pure x := by intro _; rfl) : Go w A env g av₀ s Q σ μ (.For target iter body [] pos :: rest) := by
  refine go_forM hsrc htg (fun pre σ' μ' => SubAll σ' (σf pre) ∧ MuAll μ' (μf pre)) (fun _ _ => False) Rt ⟨h0, m0⟩ (fun pre x post σi μi hx hj => ?_) (fun σn μn hn => ?_) hret hs
  · obtain ⟨σ1, hb, hgo⟩ := turn pre x post hx
    exact ⟨σ1, ⟨fun g av μ s h tk v Q E st a k => hb.run g av μ s h tk v Q E (st.weak hj.1.get) a k⟩, fun g' av1 Q' hq => go_weak (fun _ _ q => q) hj.2.get (hgo g' av1 Q' hq)⟩
  · rcases hn with ⟨a, b⟩ | z
    · exact go_as a b after
    · exact z.elim
theorem go_whileS {test : Expr} {body : List Stmt} {pos : Pos} {β : Type} (σf : β → Sg) (μf : β → Mu) (m : β → Nat) (Inv : β → Prop) (b0 : β) (i0 : Inv b0) (h0 : SubAll σ (σf b0)) (m0 : MuAll μ (μf b0))
    (turn : ∀ b, Inv b → ∃ c, Tr w A env (σf b) (μf b) test c ∧ (c = true → ∃ b', m b' < m b ∧ Inv b' ∧ ∀ Q', LoopQ w env g av₀ s (fun σ μ => SubAll σ (σf b') ∧ MuAll μ (μf b')) (fun _ _ => False) (fun _ => False) Q' → Go w A env g av₀ s Q' (σf b) (μf b) body) ∧ (c = false → Go w A env g av₀ s Q (σf b) (μf b) rest)) : Go w A env g av₀ s Q σ μ (.While test body [] pos :: rest) := by
  refine go_while (fun n σ' μ' => ∃ b, n = m b ∧ Inv b ∧ SubAll σ' (σf b) ∧ MuAll μ' (μf b)) (fun _ _ => False) (fun _ => False) (m b0) ⟨b0, rfl, i0, h0, m0⟩ (fun n σi μi hj => ?_) (fun _ _ z => z.elim) (fun _ z => z.elim)
  obtain ⟨b, rfl, ib, a, c⟩ := hj
  obtain ⟨t, ht, k1, k2⟩ := turn b ib
  refine ⟨t, ⟨fun g av s h tk Q E st k => ht.run g av s h tk Q E ((st.weak a.get).weakMu c.get) k⟩, fun e Q' hq => ?_, fun e => go_as a c (k2 e)⟩
  obtain ⟨b', hlt, ib', hgo⟩ := k1 e
  exact go_as a c (hgo Q' ⟨fun σ μ j => hq.next σ μ ⟨_, hlt, b', rfl, ib', j⟩, fun σ μ j => hq.cont σ μ ⟨_, hlt, b', rfl, ib', j⟩, hq.brk, hq.ret⟩)

theorem go_app {x : Str} {px apos pos epos : Pos} {l : Addr} {ds : List D} {e : Expr} {d : D} (hl : σ.lookup x = some (.m l)) (hm : μ.lookup l = some (.list ds))
    (he : Ev w A env σ μ e d) (hz : ds.length ≤ sizeLine) (k : Go w A env g av₀ s Q σ ((l, .list (ds ++ [d])) :: μ) rest)
    (hd : (x == ("__debug__" : Str)) = false := by decide) (hx : ∀ env, starEach [e] env = (false, eval e env) :: starEach [] env := by intros; rfl) (hl' : (apos.endLine == pos.line) = true := by decide) (hi : interactive env = false := by rfl) :
    Go w A env g av₀ s Q σ μ (.Expr (.Call (.Attribute (.Name x px) "append" apos) [e] [] pos) epos :: rest) := go_append hl hm he hz mu_put k hd hx hl' hi
end
end
section

/-- data without bools, of bounded depth -/
def D.ok : Nat → D → Bool
  | _, .none => true
  | _, .int _ => true
  | _, .str x => PyData.strOk x
  | n + 1, .tuple ds => ds.all (D.ok n)
  | n + 1, .list ds => ds.all (D.ok n)
  | _, _ => false
theorem ok_lay : ∀ (n : Nat) (d : D), D.ok n d = true → d.py.canLay0 = true ∧ d.py.depth ≤ n ∧ d.plain = true := by
  have all : ∀ (n : Nat), (∀ d, D.ok n d = true → d.py.canLay0 = true ∧ d.py.depth ≤ n ∧ d.plain = true) → ∀ ds : List D, (∀ d ∈ ds, D.ok n d = true) → PyData.canLayAll0 (D.pys ds) = true ∧ PyData.depthAll (D.pys ds) ≤ n ∧ D.plains ds = true := by
    intro n ih ds
    induction ds with
    | nil => intro _; simp [D.pys, PyData.canLayAll0, PyData.depthAll, D.plains]
    | cons d ds hi =>
      intro h
      have h1 := ih d (h d (.head _))
      have h2 := hi fun e he => h e (.tail _ he)
      simp only [D.pys, PyData.canLayAll0, PyData.depthAll, D.plains, h1.1, h2.1, h1.2.2, h2.2.2, Bool.and_self, true_and, and_true]
      have a1 := h1.2.1
      have a2 := h2.2.1
      omega
  intro n
  induction n with
  | zero => intro d h; cases d <;> simp_all [D.ok, D.py, PyData.canLay0, PyData.depth, D.plain]
  | succ n ih =>
    intro d h
    cases d with
    | none => simp [D.py, PyData.canLay0, PyData.depth, D.plain]
    | bool b => simp [D.ok] at h
    | int i => simp [D.py, PyData.canLay0, PyData.depth, D.plain]
    | str x => simp [D.ok] at h; simp [D.py, PyData.canLay0, PyData.depth, D.plain, h]
    | inst _ _ => simp [D.ok] at h
    | ptr _ => simp [D.ok] at h
    | ty _ => simp [D.ok] at h
    | leaf _ => simp [D.ok] at h
    | tuple ds =>
      have q := all n ih ds (by simpa [D.ok] using h)
      have q2 := q.2.1
      simp only [D.py, PyData.canLay0, PyData.depth, D.plain, q.1, q.2.2, true_and, and_true]
      omega
    | list ds =>
      have q := all n ih ds (by simpa [D.ok] using h)
      have q2 := q.2.1
      simp only [D.py, PyData.canLay0, PyData.depth, D.plain, q.1, q.2.2, true_and, and_true]
      omega
theorem ok_eqv : ∀ (n : Nat) (d e : D) (k : Nat), D.ok n d = true → D.ok k e = true → (PyData.eqv d.py e.py = true ↔ d = e) := by
  have all : ∀ (n : Nat), (∀ d e k, D.ok n d = true → D.ok k e = true → (PyData.eqv d.py e.py = true ↔ d = e)) → ∀ (k : Nat) (ds es : List D), (∀ d ∈ ds, D.ok n d = true) → (∀ d ∈ es, D.ok k d = true) →
      (PyData.eqvAll (D.pys ds) (D.pys es) = true ↔ ds = es) := by
    intro n ih k ds
    induction ds with
    | nil => intro es _ _; cases es <;> simp [D.pys, PyData.eqvAll]
    | cons d ds hi =>
      intro es h1 h2
      cases es with
      | nil => simp [D.pys, PyData.eqvAll]
      | cons e es =>
        have q1 := ih d e k (h1 d (.head _)) (h2 e (.head _))
        have q2 := hi es (fun x hx => h1 x (.tail _ hx)) fun x hx => h2 x (.tail _ hx)
        simp only [D.pys, PyData.eqvAll, Bool.and_eq_true, q1, q2, List.cons.injEq]
  intro n
  induction n with
  | zero => intro d e k h1 h2; cases d <;> cases e <;> cases k <;> simp_all [D.ok, D.py, PyData.eqv]
  | succ n ih =>
    intro d e k h1 h2
    cases d with
    | tuple ds =>
      cases e with
      | tuple es =>
        cases k with
        | zero => simp [D.ok] at h2
        | succ k =>
          simp only [D.py, PyData.eqv, D.tuple.injEq]
          exact all n ih k ds es (by simpa [D.ok] using h1) (by simpa [D.ok] using h2)
      | _ => cases k <;> simp_all [D.ok, D.py, PyData.eqv]
    | list ds =>
      cases e with
      | list es =>
        cases k with
        | zero => simp [D.ok] at h2
        | succ k =>
          simp only [D.py, PyData.eqv, D.list.injEq]
          exact all n ih k ds es (by simpa [D.ok] using h1) (by simpa [D.ok] using h2)
      | _ => cases k <;> simp_all [D.ok, D.py, PyData.eqv]
    | _ => cases e <;> cases k <;> simp_all [D.ok, D.py, PyData.eqv]
theorem ok_shaped {d : D} (h : d.ok 9 = true) : SeqAt.shaped d.py = true := by
  obtain ⟨a, b, _⟩ := ok_lay 9 d h
  unfold SeqAt.shaped; rw [a, Bool.true_and]; exact decide_eq_true (Nat.le_trans b (by decide))
section
variable {w : World} {A : Around}
theorem cmp_eqE {a b : D} {p : Bool} (hA : AOk A 7) (ha : a.ok 9 = true) (hb : b.ok 9 = true) (hp : p = true ↔ a = b) : CmpD w A .Eq a b p := by
  have e : p = a.py.eqv b.py := by rw [Bool.eq_iff_iff, hp, ok_eqv 9 a b 9 ha hb]
  rw [e]; exact cmp_eqD (by have := hA.un; omega) (ok_lay 9 a ha).2.2 (ok_lay 9 b hb).2.2 (ok_shaped ha) (ok_shaped hb)
theorem cmp_neE {a b : D} {p : Bool} (hA : AOk A 7) (ha : a.ok 9 = true) (hb : b.ok 9 = true) (hp : p = true ↔ a = b) : CmpD w A .NotEq a b (!p) := by
  have e : p = a.py.eqv b.py := by rw [Bool.eq_iff_iff, hp, ok_eqv 9 a b 9 ha hb]
  rw [e]; exact cmp_neD (by have := hA.un; omega) (ok_lay 9 a ha).2.2 (ok_lay 9 b hb).2.2 (ok_shaped ha) (ok_shaped hb)
end
theorem map_inj' {α β : Type} {f : α → β} (h : ∀ x y, f x = f y → x = y) : ∀ xs ys : List α, xs.map f = ys.map f → xs = ys
  | [], [], _ => rfl
  | [], _ :: _, e => by simp at e
  | _ :: _, [], e => by simp at e
  | x :: xs, y :: ys, e => by
    simp only [List.map_cons, List.cons.injEq] at e
    rw [h x y e.1, map_inj' h xs ys e.2]
theorem ok_ints (n : Nat) (xs : List Int) : D.ok (n + 1) (.list (xs.map .int)) = true := by
  cases n <;> simp [D.ok, List.all_eq_true]
theorem ok_strs (n : Nat) (xs : List Str) (h : ∀ x ∈ xs, PyData.strOk x = true) : D.ok (n + 1) (.list (xs.map .str)) = true := by
  cases n <;> (simp [D.ok, List.all_eq_true]; exact h)
theorem ok_list (n : Nat) {α : Type} (f : α → D) (xs : List α) (h : ∀ x ∈ xs, D.ok n (f x) = true) : D.ok (n + 1) (.list (xs.map f)) = true := by
  simp [D.ok, List.all_eq_true]; exact h
theorem ok_tuple2 (n : Nat) (a b : D) (ha : D.ok n a = true) (hb : D.ok n b = true) : D.ok (n + 1) (.tuple [a, b]) = true := by
  simp [D.ok, ha, hb]
theorem ok_tuple3 (n : Nat) (a b c : D) (ha : D.ok n a = true) (hb : D.ok n b = true) (hc : D.ok n c = true) : D.ok (n + 1) (.tuple [a, b, c]) = true := by
  simp [D.ok, ha, hb, hc]
theorem ev_neg {w : World} {A : Around} {env : Env} {σ : Sg} {μ : Mu} {x : Expr} {p : Pos} {i : Int} (hx : EvT w A env σ μ x (.int i)) : Ev w A env σ μ (.UnaryOp .USub x p) (.int (-i)) := ⟨fun g av s h tk Q E st k =>
  wpAny_UnaryOp (hx.run g av s h tk _ E st fun v h1 tk1 e1 a1 => by
    obtain ⟨t, rfl⟩ := a1.int
    exact neg_int (k _ h1 (tk1 + 1) e1 (.int _ _)))⟩
theorem strOk_list (x : Str) : PyData.strOk x = x.cps.toList.all fun c => decide (c < 0x110000) := by
  unfold PyData.strOk; rw [← Array.all_toList]
theorem strOk_app {x y : Str} (hx : PyData.strOk x = true) (hy : PyData.strOk y = true) : PyData.strOk (x ++ y) = true := by
  rw [strOk_list] at *
  show (x.cps ++ y.cps).toList.all _ = true
  rw [Array.toList_append, List.all_append, hx, hy]; rfl
end
section

theorem tc_weight (C : Addr) (rest : List Value) (kw : List (Str × Value)) : (Code.builtin "type.__call__" ⟨.ref C :: rest, kw⟩).weight = 1 := by kernel_rfl
theorem tc_units (C : Addr) (rest : List Value) (kw : List (Str × Value)) : (Code.builtin "type.__call__" ⟨.ref C :: rest, kw⟩).cUnits = 1 := by kernel_rfl
theorem AOk.tcall {A : Around} {n : Nat} (x : AOk A (n + 1)) (C : Addr) (rest : List Value) (kw : List (Str × Value)) : AOk (A.under (.builtin "type.__call__" ⟨.ref C :: rest, kw⟩)) n :=
  ⟨x.hd, by have := x.dp; show A.depth + (Code.builtin "type.__call__" ⟨.ref C :: rest, kw⟩).weight + n < _; rw [tc_weight]; omega, by have := x.un; show A.units + (Code.builtin "type.__call__" ⟨.ref C :: rest, kw⟩).cUnits + 10 * n < _; rw [tc_units]; omega⟩

/-- a def of the text is entered from any picture -/
theorem enterC {w : World} {f : Addr} {n : Nat} {fd : FuncData} {oc : Value} {od : Option Addr} {osl : Array (Option Value)} {body : List Stmt} {args : PySem.Args} {binds : List (Str × Value)} {σ : Sg} {μ : Mu} {g : Heap} {av : AV} {A : Around} {s : Shared} {h0 h : Heap} {tk0 tk : Nat} {R : Result → Shared → Prop}
    (hA : AOk A (n + 1)) (B0 : GB w h0) (B : GB w g) (eg : Ext g h) (e0 : Ext h0 h)
    (hb : ∀ (Q : List (Str × Value) → Shared → Prop) (E : Value → Shared → Prop), Q binds (upd s h tk) → wpAny (model P0 w) A.in1 (bindArgs fd args) Q E (upd s h0 tk0))
    (nd : (binds.map (·.1)).Nodup) (hkind : ∀ x ∈ binds, KOk fd x.1)
    (hσ : ∀ x sv, σ.lookup x = some sv → ∃ v, (x, v) ∈ binds ∧ VOk av h v sv)
    (dom : ∀ a, av a → ∃ o, h.get? a = some o)
    (hμ : ∀ a mo, μ.lookup a = some mo → mo.holds av h a ∧ av a ∧ g.get? a = none)
    (walk : ∀ L av' h₁ tk₁, (∀ a, av a → av' a) → (∀ a, av' a → av a ∨ h.get? a = none) → S w g (callEnvC fd L f) av' h₁ σ μ → wpAny (model P0 w) (A.deeper (callEnvC fd L f)) (execs body (callEnvC fd L f)) (fun fl s' => R (.ok (.ret (match fl with | .ret v => v | _ => .none))) s') (fun _ _ => False) (upd s h₁ tk₁))
    (hK : (Mine.hd.heap_1 w.params).lookup f = some ⟨oc, od, .func fd, osl⟩ := by rfl) (hcd : codeIn (Mine.hd.heap_1 w.params) fd.code fd.qualname = true := by rfl) (hbody : fd.body = .stmts body := by rfl) (hclo : fd.closure = [] := by rfl)
    (hgl : fd.globals = mainGlobals := by rfl) (hbl : fd.builtins = builtinsNs := by rfl)
    (hco : fd.scope.isCoroutine = false := by rfl) (hgen : fd.scope.isGenerator = false := by rfl) (hk : fd.scope.kind = .function := by rfl) : codeAny (model P0 w) A (.call (.ref f) args) R (upd s h0 tk0) := by
  refine codeAny_call_function (s := upd s h0 tk0) hA.room (B0.K f _ hK) rfl hco hgen hbody (codeRec_of B0.K hcd) (hb _ _ ?_)
  rw [hclo]
  refine wpAny_newFunctionEnv_cells (s := upd s h tk) hk (fun x hx => hkind x hx _) fun env he s' x => ?_
  subst he
  refine ⟨(B0.nolimit.keeps e0).keeps x.toInCall.keep, codeAny_func ?_⟩
  have x : InCallC (upd s h tk) (callEnvC fd h.objs.size f).locals (bindL (callEnvC fd h.objs.size f).kindOf binds fun _ => none) (callEnvC fd h.objs.size f).cells (bindC (callEnvC fd h.objs.size f).kindOf binds fun _ => none) s' := x
  have hL : (callEnvC fd h.objs.size f).locals = h.objs.size := rfl
  obtain ⟨h₁, tk₁, e₁⟩ := x.toInCall.same
  subst e₁
  have keep : Ext h h₁ := x.toInCall.keep
  obtain ⟨av', hav⟩ : ∃ av' : AV, ∀ a, av' a ↔ (av a ∨ a = h.objs.size ∨ ∃ y, (callEnvC fd h.objs.size f).cells.lookup y = some a) := ⟨_, fun a => Iff.rfl⟩
  have nL : h.get? h.objs.size = none := not_here h
  have gn : ∀ {a}, h.get? a = none → g.get? a = none := fun {a} q => by
    cases r : g.get? a with
    | none => rfl
    | some o => rw [eg _ _ r] at q; cases q
  have cnew : ∀ y c, (callEnvC fd h.objs.size f).cells.lookup y = some c → h.get? c = none ∧ c ≠ h.objs.size := fun y c q => by
    have := x.above y c (PySem.mem_of_lookup q)
    rw [hL] at this
    refine ⟨?_, Nat.ne_of_gt this⟩
    cases r : h.get? c with
    | none => rfl
    | some o => exact absurd (Heap.lt_size r) (Nat.not_lt.mpr (Nat.le_of_lt this))
  have mo : ∀ a o, ¬ av a → h.get? a = some o → ¬ av' a ∧ h₁.get? a = some o := fun a o na q => by
    refine ⟨fun r => ?_, keep _ _ q⟩
    rcases (hav a).mp r with r | r | ⟨y, r⟩
    · exact na r
    · rw [r, nL] at q; cases q
    · rw [(cnew y a r).1] at q; cases q
  have st : S w g (callEnvC fd h.objs.size f) av' h₁ σ μ := {
    base := B
    ext := eg.trans keep
    kind := hk
    glob := hgl
    blt := hbl
    ns := ⟨_, x.toInCall.ns, fun y sv q kl => by
      obtain ⟨v, hm, ok⟩ := hσ y sv q
      exact ⟨v, bindL_get _ _ y v nd hm kl, ok.mono mo⟩⟩
    cells := fun y sv q kl => by
      obtain ⟨v, hm, ok⟩ := hσ y sv q
      rcases hkind _ hm (h.objs.size + 1) with k1 | ⟨k1, k2⟩
      · exact absurd k1 kl
      · obtain ⟨c, hc⟩ := Option.isSome_iff_exists.mp k2
        have hc' : (callEnvC fd h.objs.size f).cells.lookup y = some c := hc
        refine ⟨k1, c, v, hc', ?_, ok.mono mo⟩
        have := x.cell y c hc'
        rw [bindC_get _ _ y v nd hm kl] at this
        exact this
    ownL := ⟨(hav _).mpr (.inr (.inl rfl)), gn nL⟩
    ownC := fun y c q => ⟨(hav _).mpr (.inr (.inr ⟨y, q⟩)), gn (cnew y c q).1, (cnew y c q).2, _, x.cell y c q⟩
    apart := fun y z c q r => name_of_addr x.apart (PySem.mem_of_lookup q) (PySem.mem_of_lookup r)
    dom := fun a q => by
      rcases (hav a).mp q with q | q | ⟨y, q⟩
      · obtain ⟨o, ho⟩ := dom a q; exact ⟨o, keep _ _ ho⟩
      · subst q; obtain ⟨o, _, _, ho, _⟩ := x.toInCall.ns; exact ⟨o, ho⟩
      · obtain ⟨o, ho, _⟩ := x.cell y a q; exact ⟨o, ho⟩
    mu := fun a mo' q => by
      obtain ⟨b, c, d⟩ := hμ a mo' q
      obtain ⟨o, ho⟩ := MO.holds_some b
      exact ⟨MO.holds_mono mo (fun o r => keep _ _ r) b, (hav a).mpr (.inl c), d, (fun r => by have r' : a = h.objs.size := r; rw [r', nL] at ho; cases ho), fun z c' q r => by rw [r] at q; rw [(cnew z a q).1] at ho; cases ho⟩ }
  exact wpAny_mono (walk _ av' h₁ tk₁ (fun a q => (hav a).mpr (.inl q)) (fun a q => by
    rcases (hav a).mp q with q | q | ⟨y, q⟩
    · exact .inl q
    · exact .inr (q ▸ nL)
    · exact .inr (cnew y a q).1) st) (fun _ _ z => z) fun _ _ z => z.elim
end
section
open Builtin Builtin.ObjectAttr

/-! fields -/
def setF (x : Str) (d : D) : List (Str × D) → List (Str × D)
  | [] => [(x, d)]
  | (y, e) :: r => if y = x then (y, d) :: r else (y, e) :: setF x d r
theorem isStr_str {x y : Str} {t : Tok} : (Value.str x t).isStr y = (x == y) := rfl
theorem Fds.get {av : AV} {h : Heap} : ∀ {es : List DictEntry} {fs : List (Str × D)}, Fds av h es fs → ∀ {x : Str}, match fs.lookup x with | some d => ∃ v, getL x es = some (some v) ∧ At av h v d | none => getL x es = some none
  | _, _, .nil, x => by simp [getL]
  | _, _, .cons (hash := hs) (x := y) (t := t) (v := v) (d := d) (es := es) (fs := fs) hv r, x => by
    have ih := Fds.get r (x := x)
    rw [List.lookup_cons]
    by_cases q : x = y
    · subst q
      simp only [beq_self_eq_true]
      exact ⟨v, by simp [getL, isStr_str], hv⟩
    · have : (x == y) = false := by simpa using q
      rw [this]
      have e : getL x (⟨hs, .str y t, v⟩ :: es) = getL x es := by
        have q' : (y == x) = false := by simpa using fun e => q e.symm
        unfold getL
        rw [List.find?_cons]
        have : DictEntry.refKey ⟨hs, .str y t, v⟩ = false := rfl
        simp only [isStr_str, q', List.any_cons, this, Bool.false_or]
      rw [e]; exact ih
theorem Fds.have_ {av : AV} {h : Heap} {es : List DictEntry} {fs : List (Str × D)} (x : Fds av h es fs) {n : Str} {d : D} (e : fs.lookup n = some d) : ∃ v, getL n es = some (some v) ∧ At av h v d := by
  have := x.get (x := n); rw [e] at this; exact this
theorem Fds.miss {av : AV} {h : Heap} {es : List DictEntry} {fs : List (Str × D)} (x : Fds av h es fs) {n : Str} (e : fs.lookup n = none) : getL n es = some none := by
  have := x.get (x := n); rw [e] at this; exact this
theorem Fds.isSome {av : AV} {h : Heap} {es : List DictEntry} {fs : List (Str × D)} (x : Fds av h es fs) (n : Str) : (getL n es).isSome = true := by
  have := x.get (x := n)
  cases e : fs.lookup n with
  | none => rw [e] at this; rw [this]; rfl
  | some d => rw [e] at this; obtain ⟨v, q, _⟩ := this; rw [q]; rfl
theorem Fds.put {av : AV} {h : Heap} {n : Str} {hsh : Int} {t : Tok} {v : Value} {d : D} (hv : At av h v d) : ∀ {es : List DictEntry} {fs : List (Str × D)}, Fds av h es fs → Fds av h (putL n hsh (.str n t) v es) (setF n d fs)
  | _, _, .nil => .cons hv .nil
  | _, _, .cons (x := y) hw r => by
    unfold putL setF
    simp only [isStr_str]
    by_cases q : y = n
    · subst q; simp only [beq_self_eq_true, if_true]; exact .cons hv r
    · have : (y == n) = false := by simpa using q
      simp only [this, if_neg q, Bool.false_eq_true, if_false]; exact .cons hw (Fds.put hv r)
theorem KeysOk.put {kh : Str → Int} {n : Str} {t : Tok} {v : Value} : ∀ {es : List DictEntry}, KeysOk kh es → KeysOk kh (putL n (kh n) (.str n t) v es)
  | [], _ => fun e he => by cases List.mem_singleton.mp he; exact ⟨n, t, rfl, rfl⟩
  | e :: r, h => by
    unfold putL
    split
    · intro e' he
      rcases List.mem_cons.mp he with rfl | he
      · exact h e (.head _)
      · exact h e' (.tail _ he)
    · intro e' he
      rcases List.mem_cons.mp he with rfl | he
      · exact h _ (.head _)
      · exact KeysOk.put (fun e he => h e (.tail _ he)) e' he
theorem putL_length {n : Str} {k : Int} {key v : Value} : ∀ es : List DictEntry, (putL n k key v es).length ≤ es.length + 1
  | [] => Nat.le_refl _
  | e :: r => by
    unfold putL; split
    · simp
    · have := putL_length (n := n) (k := k) (key := key) (v := v) r; simp only [List.length_cons]; omega
theorem Fds.length {av : AV} {h : Heap} : ∀ {es : List DictEntry} {fs : List (Str × D)}, Fds av h es fs → es.length = fs.length
  | _, _, .nil => rfl
  | _, _, .cons _ r => by simp [r.length]
theorem handed_at {av : AV} {h : Heap} {v : Value} {d : D} (x : At av h v d) : handedIn v = true := by cases x <;> rfl

section
variable {w : World} {A : Around} {env : Env} {σ : Sg} {μ : Mu} {E : Value → Shared → Prop}

theorem osa_raw {K : Frag} {x dx C : Addr} {es : List DictEntry} {n : Nat} {s : Shared} {name : Str} {v : Value} {tk : Tok} {R : Result → Shared → Prop} (X : K.In s.heap) (hx : s.heap.get? x = some (instObj C dx)) (hdx : s.heap.get? dx = some (dctO es n))
    (hp : plainOver K C = true) (ht : takerIn K C name = some none) (hh : hasDictIn K C = true) (hl : (getL name es).isSome = true) (hz : es.length ≤ 900)
    (k : ∀ n' h', Heap.SameBut dx s.heap h' → h'.get? dx = some (dctO (putL name (PyData.keyHash w.params name) (.str name s.toks) v es) n') → R (.ok (.ret .none)) { s with heap := h', toks := s.toks + 1 }) : codeAny (model P0 w) A (.call (.builtin "object.__setattr__") ⟨[.ref x, .str name tk, v], []⟩) R s := by
  have I : InstAt s.heap x (instObj C dx) C (some (dctO es n)) := ⟨hx, rfl, rfl, hdx⟩
  refine osa_open X I hp ht fun b => ?_
  obtain ⟨cd, hc, hd'⟩ := any_some hh
  refine wpAny_bind (wpAny_pure (wpAny_bind (wpAny_bind (wpAny_loadPart hx (wpAny_bind ((looks_clsIn X hc).here ?_))))))
  rw [hd']
  refine wpAny_pure (a := some dx) (wpAny_bind (wpAny_pure (wpAny_bind ?_)))
  unfold nsSet
  refine wpAny_bind (wpAny_bind (wpAny_askSetting (wpAny_pure (wpAny_bind (wpAny_mkText (wpAny_bind (wpAny_loadPart hdx ?_)))))))
  dsimp only
  have c : (!es.toArray.any (·.key.isStr name) && es.toArray.any (·.refKey)) = false := by
    rw [← Array.any_toList, ← Array.any_toList]
    unfold getL at hl
    split at hl
    · rename_i en he
      rw [List.any_eq_true.mpr ⟨en, List.mem_of_find?_eq_some he, List.find?_some he⟩]; rfl
    · split at hl
      · cases hl
      · rename_i z; rw [Bool.not_eq_true] at z; rw [z, Bool.and_false]
  rw [aRefKeyMayBeTheName_at, c]
  have self : (s.heap.update dx (Obj.putName name (PyData.keyHash w.params name) (.str name s.toks) v)).get? dx = some (dctO (putL name (PyData.keyHash w.params name) (.str name s.toks) v es) (putN name es n)) :=
    (Heap.get?_update_self _ hdx (by rw [putName_dict]; rfl)).trans (by rw [putName_dict])
  have e1 : (putL name (PyData.keyHash w.params name) (.str name s.toks) v es).length ≤ 1000 := Nat.le_trans (putL_length es) (by omega)
  refine wpAny_updatePart hdx ?_
  refine wpAny_bind (wpAny_lookBehind self (pastItsLine_dict (by rw [List.size_toArray, sizeLine_eq]; omega)) ?_)
  exact wpAny_pure (k _ _ (Heap.SameBut.update ..) self)
/-- an attribute is set in an object's own dict -/
theorem setattr_raw {K : Frag} {x dx C : Addr} {es : List DictEntry} {n : Nat} {s : Shared} {name : Str} {v : Value} {Q : Unit → Shared → Prop} (X : K.In s.heap) (hx : s.heap.get? x = some (instObj C dx)) (hdx : s.heap.get? dx = some (dctO es n))
    (hs : findIn K (.ref C) "__setattr__" = some (some (.builtin "object.__setattr__"))) (hp : plainOver K C = true) (ht : takerIn K C name = some none) (hh : hasDictIn K C = true) (hl : (getL name es).isSome = true) (hz : es.length ≤ 900)
    (k : ∀ t n' h', Heap.SameBut dx s.heap h' → h'.get? dx = some (dctO (putL name (PyData.keyHash w.params name) (.str name t) v es) n') → Q () { s with heap := h', toks := s.toks + 2 }) : wpAny (model P0 w) A (setAttr (.ref x) name v) Q E s :=
  set_plain X (show InstAt s.heap x (instObj C dx) C (some (dctO es n)) from ⟨hx, rfl, rfl, hdx⟩) hs (osa_raw (s := { s with toks := s.toks + 1 }) X hx hdx hp ht hh hl hz fun n' h' sb e => k _ n' h' sb e)

noncomputable abbrev KK (w : World) : Frag := Mine.hd.heap_1 w.params
theorem get_at {x dx C : Addr} {es : List DictEntry} {n : Nat} {s : Shared} {name : Str} {v : Value} {expr : Bool} {Q : Value → Shared → Prop} (X : (KK w).In s.heap) (hx : s.heap.get? x = some (instObj C dx)) (hdx : s.heap.get? dx = some (dctO es n))
    (hg : plainGet (KK w) C name = true) (hh : hasDictIn (KK w) C = true) (ha : findIn (KK w) (.ref C) name = some none) (hl : getL name es = some (some v)) (hv : handedIn v = true) (k : Q v { s with toks := s.toks + 1 }) : wpAny (model P0 w) A (getAttr (.ref x) name expr) Q E s :=
  get_value X (show InstAt s.heap x (instObj C dx) C (some (dctO es n)) from ⟨hx, rfl, rfl, hdx⟩) (plainGet_of hg).1 (findObj_own (attr := none) hh ha rfl hl) hv k
/-- a field of an object -/
theorem ev_attr {o : Expr} {name : Str} {p : Pos} {C : Addr} {fs : List (Str × D)} {d : D} (ho : Ev w A env σ μ o (.inst C fs)) (hl : fs.lookup name = some d)
    (hg : plainGet (KK w) C name = true := by rfl) (hh : hasDictIn (KK w) C = true := by rfl) (ha : findIn (KK w) (.ref C) name = some none := by rfl)
    (he : ∀ env, eval (.Attribute o name p) env = (do
      let v ← eval o env
      standAt p.atName
      let r ← holding [v] (getAttr v name true)
      letTemporaryGo o v r
      pure r) := by intros; with_unfolding_all rfl) : Ev w A env σ μ (.Attribute o name p) d := ⟨fun g av s h tk Q E st k =>
  Attribute_any_ (ho.run g av s h tk _ E st fun v h1 tk1 e1 a1 => by
    cases a1 with
    | inst hx hd hxo hdo hs =>
      obtain ⟨v, q, a⟩ := hs.have_ hl
      exact get_at (s := upd s h1 tk1) (st.base.ext (st.ext.trans e1)).K hxo hdo hg hh ha q (handed_at a) (k v h1 (tk1 + 1) e1 a)) (he env)⟩
/-- a field of an object that the frame owns -/
theorem ev_attrM {nm name : Str} {p pn : Pos} {C x dx : Addr} {kh : Str → Int} {fs : List (Str × D)} {d : D} (hn : σ.lookup nm = some (.m x)) (hx : μ.lookup x = some (.inst C dx)) (hdx : μ.lookup dx = some (.dict kh fs)) (hl : fs.lookup name = some d)
    (hg : plainGet (KK w) C name = true := by rfl) (hh : hasDictIn (KK w) C = true := by rfl) (ha : findIn (KK w) (.ref C) name = some none := by rfl) (hd : (nm == ("__debug__" : Str)) = false := by decide)
    (he : ∀ env, eval (.Attribute (.Name nm pn) name p) env = (do
      let v ← eval (.Name nm pn) env
      standAt p.atName
      let r ← holding [v] (getAttr v name true)
      letTemporaryGo (.Name nm pn) v r
      pure r) := by intros; with_unfolding_all rfl) : Ev w A env σ μ (.Attribute (.Name nm pn) name p) d := ⟨fun g av s h tk Q E st k =>
  Attribute_any_ (wpAny_Name (ld_name st hn fun v hv => by
    subst hv
    obtain ⟨hxo, _⟩ := st.mu x _ hx
    obtain ⟨⟨es, n, hdo, hs, _⟩, _⟩ := st.mu dx _ hdx
    obtain ⟨v, q, a⟩ := hs.have_ hl
    exact get_at (s := upd s h tk) (st.base.ext st.ext).K hxo hdo hg hh ha q (handed_at a) (k v h (tk + 1) (Ext.refl h) a)) hd) (he env)⟩
/-- a method of an object -/
theorem gm_inst {C : Addr} {fs : List (Str × D)} {name : Str} {f : Addr} (hl : fs.lookup name = none) (hg : plainGet (KK w) C name = true := by rfl) (hf : findIn (KK w) (.ref C) name = some (some (.ref f)) := by rfl) (ht : typeIn (KK w) (.ref f) = some (.type "function") := by rfl) : GetM w A (.inst C fs) name (.ref f) := ⟨fun av s h tk v pl Q E B a k => by
  rcases a with a | ⟨_, _, _, _, _, e, _⟩
  · cases a with
    | @inst x dx _ es _ n hx hd hxo hdo hs =>
      refine method_fn (s := upd s h tk) B.K (show InstAt h x (instObj C dx) C (some (dctO es n)) from ⟨hxo, rfl, rfl, hdo⟩) (plainGet_of hg).1 (plainGet_of hg).2 hf ht ?_ k
      show (lookIn name (dictOf es n)).map _ = _
      rw [lookIn_dict, hs.miss hl]; rfl
  · cases e⟩
variable {g : Heap} {av₀ : AV} {s : Shared} {Q : Flow → Shared → Prop} {rest : List Stmt}
/-- self.x = e of an object that the frame owns -/
theorem go_setattr {nm name : Str} {p pn pos : Pos} {C x dx : Addr} {fs : List (Str × D)} {e : Expr} {d : D} (he : Ev w A env σ μ e d) (hn : σ.lookup nm = some (.m x)) (hx : μ.lookup x = some (.inst C dx)) (hdx : μ.lookup dx = some (.dict (PyData.keyHash w.params) fs)) (hz : fs.length ≤ 900)
    (k : Go w A env g av₀ s Q σ ((dx, .dict (PyData.keyHash w.params) (setF name d fs)) :: μ) rest)
    (h1 : findIn (KK w) (.ref C) "__setattr__" = some (some (.builtin "object.__setattr__")) := by rfl) (h2 : plainOver (KK w) C = true := by rfl) (h3 : takerIn (KK w) C name = some none := by rfl) (h4 : hasDictIn (KK w) C = true := by rfl)
    (hd : (nm == ("__debug__" : Str)) = false := by decide) (hs : swapsWith e (some (.Attribute (.Name nm pn) name p)) pos.line env = pure false := by rfl) : Go w A env g av₀ s Q σ μ (.Assign [.Attribute (.Name nm pn) name p] e pos :: rest) := ⟨fun av h tk up om st =>
  wpAny_execs_cons (plainObj_wpAny_Assign_Attribute (he.run g av s h tk _ _ st fun v h1' tk1 e1 a1 => wpAny_Name (ld_name (st.grow e1) hn fun u hu => by
    subst hu
    have st1 := st.grow e1
    obtain ⟨hxo, ax, _⟩ := st1.mu x _ hx
    obtain ⟨⟨es, n, hdo, hfs, hk⟩, adx, _⟩ := st1.mu dx _ hdx
    have hlen := hfs.length
    refine setattr_raw (s := upd s h1' tk1) (st1.base.ext st1.ext).K hxo hdo h1 h2 h3 h4 (hfs.isSome name) (by omega) fun t n' h' sb ho => ?_
    have off : ∀ b o, ¬ av b → h1'.get? b = some o → ¬ av b ∧ h'.get? b = some o := fun b o nb q => ⟨nb, (sb.2 b fun r => nb (r ▸ adx)).trans q⟩
    refine k.run av h' (tk1 + 2) up (fun a mo q => ?_) (st1.putMu (m1 := .dict (PyData.keyHash w.params) (setF name d fs)) hdx sb ⟨_, n', ho, (Fds.put a1 hfs).mono off, hk.put⟩ mu_put)
    rcases mu_put a mo q with ⟨r, _⟩ | ⟨_, r⟩
    · exact om a _ (r ▸ hdx)
    · exact om a _ r) hd) hs)⟩
end
end
section

/-! the signs of a text -/
def signs (x : Str) : List Str := x.cps.toList.map fun c => ⟨#[c]⟩
theorem It.str {w : World} {A : Around} {av : AV} {I : Addr} {x : Str} {t : Tok} {T : String} (W : Walks P0 w A I [I] [I] x.cps.size (SignAt x) (fun i h => h.IsStrIter I T x t i))
    (hT : ["enumerate", "zip", "dict_itemiterator", "dict_reverseitemiterator", "odict_iterator", "itertools.zip_longest", "itertools.pairwise"].contains T = false) (hI : av I) : It false w A av I [I] (fun i h => h.IsStrIter I T x t i) ((signs x).map .str) where
  self := List.mem_singleton.mpr rfl
  alive := fun i h st b hb => by cases List.mem_singleton.mp hb; obtain ⟨o, ho, _⟩ := st; exact ⟨o, ho⟩
  frame := fun i h h' st k => W.frame i h h' st fun b hb o e => k b o (.inl hb) e
  next := fun target i d s h tk Q E htg avc hc wc st hd dom k => by
    have hi : i < x.cps.size := by
      rcases Nat.lt_or_ge i x.cps.size with q | q
      · exact q
      · rw [List.getElem?_eq_none (by simpa [signs] using q)] at hd; cases hd
    refine W.item i (upd s h tk) _ _ hi st fun v h' tk' hP st' kb => ⟨v, rfl, ?_⟩
    obtain ⟨c, u, hc', rfl⟩ := hP
    have hd' : d = .str ⟨#[c]⟩ := by
      simp only [signs, List.map_map, List.getElem?_map, Array.getElem?_toList, hc'] at hd
      exact (Option.some.inj hd).symm
    subst hd'
    obtain ⟨o, ho, hcl, hdt⟩ := id st'
    refine letGo_plain (s := upd s h' tk') ho hcl hdt hT ?_
    exact k _ h' tk' st' (fun b o nb e => kb b o nb e) (.str _ _)
  done := fun s h tk Q E st k => W.done (upd s h tk) _ _ ((show ((signs x).map D.str).length = x.cps.size by simp [signs]) ▸ st) fun h' tk' kb => ⟨rfl, k h' tk' fun b o nb e => kb b o nb e⟩
  again := fun i s h tk Q E st k => W.self i (upd s h tk) _ _ st k

section
variable {w : World} {A : Around} {env : Env} {σ : Sg} {μ : Mu}
theorem src_str (hh : A.handled = none) {e : Expr} {x : Str} (he : Ev w A env σ μ e (.str x)) : Src false w A env σ μ e ((signs x).map .str) := ⟨fun g av s h tk Q E st k => by
  refine he.run g av s h tk _ E st fun v h1 tk1 e1 a1 => ?_
  cases a1 with
  | str _ t =>
    have fresh : h1.get? h1.objs.size = none := not_here h1
    have fin : ∀ T, Walks P0 w A h1.objs.size [h1.objs.size] [h1.objs.size] x.cps.size (SignAt x) (fun i h => h.IsStrIter h1.objs.size T x t i) → ["enumerate", "zip", "dict_itemiterator", "dict_reverseitemiterator", "odict_iterator", "itertools.zip_longest", "itertools.pairwise"].contains T = false →
        Q (.ref h1.objs.size) (upd s (h1.push { cls := .type T, data := .fields #[.str x t, .int 0 0] }) tk1) := fun T W hT =>
      k _ [h1.objs.size] (h1.push _) tk1 (fun av' up inn mo => ⟨_, It.str W hT (inn _ (List.mem_singleton.mpr rfl)), ⟨_, Heap.get?_push_size _ rfl, rfl, rfl⟩⟩) (e1.trans (Ext.push _ _)) (fun b hb => by cases List.mem_singleton.mp hb; exact ⟨not_before e1 fresh, _, Heap.get?_push_size _ rfl⟩)
    cases ha : x.cps.all (· < 128)
    · exact wpAny_pyIter_wide (s := upd s h1 tk1) ha (fin _ (Walks.strWide hh _ x t) (by decide))
    · exact wpAny_pyIter_ascii (s := upd s h1 tk1) ha (fin _ (Walks.strAscii hh _ x t) (by decide))⟩

/-- a constant of a class -/
theorem ev_clsattr {n name : Str} {p pn : Pos} {C : Addr} {v : Value} {d : D} (hk : env.kindOf n = some .globalImplicit) (hv : IsGlob w n (.ref C)) (hd : ∀ av h, At av h v d)
    (hr : readsIn (KK w) C (.type "type") = true := by rfl) (hf : findCls (KK w) (.ref C) (.type "type") name = some (.val v) := by rfl) (hn : (n == ("__debug__" : Str)) = false := by decide)
    (he : ∀ env, eval (.Attribute (.Name n pn) name p) env = (do
      let v ← eval (.Name n pn) env
      standAt p.atName
      let r ← holding [v] (getAttr v name true)
      letTemporaryGo (.Name n pn) v r
      pure r) := by intros; with_unfolding_all rfl) : Ev w A env σ μ (.Attribute (.Name n pn) name p) d := ⟨fun g av s h tk Q E st k =>
  Attribute_any_ (ld_glob st hk hv (cls_value (s := upd s h tk) (st.base.ext st.ext).K hr hf (handed_at (hd av h)) (k v h (tk + 1) (Ext.refl h) (hd av h))) hn) (he env)⟩

variable {g : Heap} {av₀ : AV} {s : Shared} {Q : Flow → Shared → Prop} {rest : List Stmt}
/-- x, y = a, b: the stores go from the right -/
theorem go_swap2 {x y : Str} {px py tp vp pos : Pos} {k₀ k₁ : Nat} {e1 e2 : Expr} {d1 d2 : D} (hh : A.handled = none) (hv : Ev w A env σ μ (.Tuple [e1, e2] k₁ vp) (.tuple [d1, d2])) (hx : env.kindOf x = some .local) (hy : env.kindOf y = some .local) (k : Go w A env g av₀ s Q ((x, .d d1) :: (y, .d d2) :: σ) μ rest)
    (hs : swapsWithSole [.Tuple [.Name x px, .Name y py] k₀ tp] (.Tuple [e1, e2] k₁ vp) pos.line env = pure false := by rfl) (hw : swappedStores [.Tuple [.Name x px, .Name y py] k₀ tp] (.Tuple [e1, e2] k₁ vp) env = pure (some [x, y]) := by rfl) :
    Go w A env g av₀ s Q σ μ (.Assign [.Tuple [.Name x px, .Name y py] k₀ tp] (.Tuple [e1, e2] k₁ vp) pos :: rest) := ⟨fun av h tk up om st =>
  wpAny_execs_cons (Assign_Tuple_swapped (hv.run g av s h tk _ _ st fun v h1 tk1 ex a1 => by
    cases a1 with
    | @tuple t vs _ n na ho hs' =>
      cases hs' with | cons v1 r => cases r with | cons v2 r => cases r with | nil =>
        rename_i u1 u2
        refine unpackItems_tuple (s := upd s h1 tk1) (items := #[u1, u2]) hh ⟨_, ho, rfl, n, rfl⟩ fun h' he => ?_
        have e2 : Ext h1 h' := fun b o q => he b o (fun r => by have := Heap.lt_size q; rw [r] at this; exact Nat.lt_irrefl _ this) q
        show wpAny _ _ (assignInOrder [fun v => bindName env y v, fun v => bindName env x v] [u2, u1]) _ _ _
        have st' := (st.grow ex).grow e2
        refine wpAny_bind (wpAny_holding (wpAny_bindName (st_local (sv := .d d2) st' (v2.ext e2) hy fun h2 tk2 s2 sb2 => ?_)))
        have off : Off av h' h2 := fun b o nb q => (sb2.2 b fun e => nb (e ▸ st'.ownL.1)).trans q
        refine wpAny_bind (wpAny_holding (wpAny_bindName (st_local (sv := .d d1) s2 ((v1.ext e2).off off) hx fun h3 tk3 s3 _ => ?_)))
        exact wpAny_pure (k.run av h3 tk3 up om s3)) hs hw)⟩
/-- x = y = z = e -/
theorem go_three {x y z : Str} {px py pz pos : Pos} {e : Expr} {d : D} (he : Ev w A env σ μ e d) (hx : Storable env x) (hy : Storable env y) (hz : Storable env z) (k : Go w A env g av₀ s Q ((z, .d d) :: (y, .d d) :: (x, .d d) :: σ) μ rest)
    (hE : (assignEach [.Name x px, .Name y py, .Name z pz] env).map (·.2) = [assign (.Name x px) env, assign (.Name y py) env, assign (.Name z pz) env] := by rfl)
    (hw : swappedStores [.Name x px, .Name y py, .Name z pz] e env = pure none := by rfl) :
    Go w A env g av₀ s Q σ μ (.Assign [.Name x px, .Name y py, .Name z pz] e pos :: rest) := ⟨fun av h tk up om st =>
  wpAny_execs_cons (wpAny_Assign_three (he.run g av s h tk _ _ st fun v h1 tk1 e1 a1 =>
    wpAny_assign_Name (st_name (sv := .d d) (st.grow e1) a1 hx fun h2 tk2 s2 o2 => wpAny_assign_Name (st_name (sv := .d d) s2 (a1.off o2) hy fun h3 tk3 s3 o3 => wpAny_assign_Name (st_name (sv := .d d) s3 ((a1.off o2).off o3) hz fun h4 tk4 s4 _ => k.run av h4 tk4 up om s4)))) hE hw)⟩
end
end
section

theorem Ats.rep {av : AV} {h : Heap} {vs : List Value} {ds : List D} (x : Ats av h vs ds) : ∀ n : Nat, Ats av h (List.replicate n vs).flatten (List.replicate n ds).flatten
  | 0 => .nil
  | n + 1 => by rw [List.replicate_succ, List.replicate_succ, List.flatten_cons, List.flatten_cons]; exact x.append (Ats.rep x n)
section
variable {w : World} {A : Around}
theorem op_repL {ds : List D} {n : Int} (h0 : -(2 ^ 63) ≤ n) (h1 : n < 2 ^ 63) (hz : ds.length * n.toNat ≤ 2 ^ 24) : OpD w A .Mult (.list ds) (.int n) (.list (List.replicate n.toNat ds).flatten) := ⟨fun av s h tk u v Q E dm a b k => by
  obtain ⟨l, vs, m, rfl, ho, hs⟩ := a.list; obtain ⟨t, rfl⟩ := b.int
  have hz' : vs.toArray.size * n.toNat ≤ 2 ^ 24 := by simpa [hs.length] using hz
  refine wpAny_binaryOp_repeat_ref (s := upd s h tk) (T := "list") (U := "int") (by decide) ⟨_, ho, rfl⟩ (fun s' => typeIs_int s' n t) noFill_list_mul F.fills_int_mul F.slot_int_rmul repeat_list F.slot_int_index.lookup
    (call_meets F.slot_int_rmul (typeIs_int _ n t) F.entry_int_rmul (F.args_int_rmul_2 _ _) (lm_int_rmul_list_any n t l vs.toArray m none #[])
      ⟨ho, rfl, ⟨_, ho, rfl⟩, call_meets F.slot_list_mul ⟨_, ho, rfl⟩ F.entry_list_mul (F.args_list_mul_2 _ _)
        (lm_list_mul_any l vs.toArray m none #[] n t (by simp [Builtin.List.listFitsIndex]; omega) (by omega) (by simp [Builtin.List.listTooLong, sizeLine] at hz' ⊢; omega))
        ⟨ho, ?_⟩⟩)
  have e : List.foldl (fun x1 x2 => x1 ++ x2) #[] (List.replicate (if vs.toArray.isEmpty = true then 0 else n.toNat) vs.toArray) = ((List.replicate n.toNat vs).flatten).toArray := by
    rw [listMul_foldl_if]
  rw [e]
  exact k _ (h.push _) tk (Ext.push _ _) (.list (vs := (List.replicate n.toNat vs).flatten) (n := 0) (dom_fresh dm) (Heap.get?_push_size _ rfl) ((hs.rep _).ext (Ext.push _ _)))⟩
theorem rep_one {α : Type} (d : α) (n : Nat) : (List.replicate n [d]).flatten = List.replicate n d := lm_rep_flat_one d n
end

/-! a class is called -/
/-- how __init__'s body ends -/
def InitQ (w : World) (env : Env) (g : Heap) (av : AV) (s : Shared) (C x dx : Addr) (fs : List (Str × D)) (Q : Flow → Shared → Prop) : Prop :=
  ∀ σ' μ' av' h' tk', (∀ a, av a → av' a) → List.lookup x μ' = some (.inst C dx) → List.lookup dx μ' = some (.dict (PyData.keyHash w.params) fs) → S w g env av' h' σ' μ' → Q .next (upd s h' tk')
theorem InitQ.go {w : World} {A : Around} {env : Env} {g : Heap} {av : AV} {s : Shared} {C x dx : Addr} {fs : List (Str × D)} {Q : Flow → Shared → Prop} {σ : Sg} {μ : Mu} (q : InitQ w env g av s C x dx fs Q) (hx : List.lookup x μ = some (.inst C dx)) (hdx : List.lookup dx μ = some (.dict (PyData.keyHash w.params) fs)) : Go w A env g av s Q σ μ [] :=
  go_nil fun av' h' tk' up om st => q σ μ av' h' tk' up hx hdx st

theorem zip_get {av : AV} {h : Heap} : ∀ (ns : List Str) (vs : List Value) (ds : List D), Ats av h vs ds → ∀ x sv, (sg ns ds).lookup x = some sv → ∃ v, (x, v) ∈ ns.zip vs ∧ VOk av h v sv
  | [], _, _, _, x, sv, e => by simp [sg] at e
  | n :: ns, _, _, .nil, _, _, e => by simp [sg] at e
  | n :: ns, _, _, .cons (v := v) hv hs, x, sv, e => by
    by_cases hx : x = n
    · subst hx
      simp only [sg] at e
      rw [lookup_cons_eq] at e; cases e
      exact ⟨v, by simp, hv⟩
    · simp only [sg] at e
      rw [lookup_cons_ne hx] at e
      obtain ⟨u, a, b⟩ := zip_get ns _ _ hs x sv e
      exact ⟨u, by simp [a], b⟩
theorem fn_new {w : World} {C f : Addr} {n : Nat} {fd : FuncData} {oc : Value} {od : Option Addr} {osl : Array (Option Value)} {body : List Stmt} {self : Str} {ps : List Str} {ds dex : List D} {ex : List Value} {fs : List (Str × D)}
    (hex : ∀ av h, Ats av h ex dex) (hlen : ps.length = (ds ++ dex).length) (nd : (self :: ps).Nodup) (hkind : ∀ x ∈ self :: ps, KOk fd x)
    (hb : ∀ x vs, vs.length = ds.length → ∀ (A : Around) (s : Shared) (Q : List (Str × Value) → Shared → Prop) (E : Value → Shared → Prop), (KK w).In s.heap → Q ((self, .ref x) :: ps.zip (vs ++ ex)) s → wpAny (model P0 w) A (bindArgs fd ⟨.ref x :: vs, []⟩) Q E s)
    (walk : ∀ A L g av s x dx Q, AOk A n → x ≠ dx → InitQ w (callEnvC fd L f) g av s C x dx fs Q → Go w A (callEnvC fd L f) g av s Q ((self, .m x) :: sg ps (ds ++ dex)) [(x, .inst C dx), (dx, .dict (PyData.keyHash w.params) [])] body)
    (hm : makesIn (KK w) C = true := by rfl) (hi : findIn (KK w) (.ref C) "__init__" = some (some (.ref f)) := by rfl) (hf : typeIn (KK w) (.ref f) = some (.type "function") := by rfl)
    (hK : (Mine.hd.heap_1 w.params).lookup f = some ⟨oc, od, .func fd, osl⟩ := by rfl) (hcd : codeIn (Mine.hd.heap_1 w.params) fd.code fd.qualname = true := by rfl) (hbody : fd.body = .stmts body := by rfl) (hclo : fd.closure = [] := by rfl)
    (hgl : fd.globals = mainGlobals := by rfl) (hbl : fd.builtins = builtinsNs := by rfl)
    (hco : fd.scope.isCoroutine = false := by rfl) (hgen : fd.scope.isGenerator = false := by rfl) (hk : fd.scope.kind = .function := by rfl) : Fn w C (n + 2) ds (.inst C fs) := by
  refine ⟨fun A av s h tk vs Q E hA B dom ats k => wpAny_call ?_⟩
  refine make_core (A := A) (h := h) (rest := vs) (kw := []) (makes_of B.K hm) (looks_findIn B.K hi) (fun self => bind_fn B.K self hf) (.inl rfl) ?_
  have nx : h.get? (h.objs.size + 1) = none := by
    cases q : h.get? (h.objs.size + 1) with
    | none => rfl
    | some o => exact absurd (Heap.lt_size q) (Nat.not_lt.mpr (Nat.le_succ _))
  have nd' : h.get? h.objs.size = none := not_here h
  have e2 : Ext h ((h.push emptyDict).push (instObj C h.objs.size)) := (Ext.push _ _).trans (Ext.push _ _)
  have gx : ((h.push emptyDict).push (instObj C h.objs.size)).get? (h.objs.size + 1) = some (instObj C h.objs.size) := by
    have := Heap.get?_push_size (h.push emptyDict) (o := instObj C h.objs.size) rfl
    rw [Heap.size_push] at this; exact this
  have gd : ((h.push emptyDict).push (instObj C h.objs.size)).get? h.objs.size = some (dctO [] 0) := Heap.get?_push_of_some _ (Heap.get?_push_size h (o := emptyDict) rfl)
  have hne : h.objs.size + 1 ≠ h.objs.size := Nat.succ_ne_self _
  generalize hH : (h.push emptyDict).push (instObj C h.objs.size) = H at e2 gx gd ⊢
  generalize hX : h.objs.size + 1 = X at nx gx hne ⊢
  generalize hDX : h.objs.size = DX at nd' gx gd hne ⊢
  show codeAny (model P0 w) (A.under (.builtin "type.__call__" ⟨.ref C :: vs, []⟩)) (.call (.ref f) ⟨.ref X :: vs, []⟩) _ (upd s H tk)
  have nav : ∀ {a}, h.get? a = none → ¬ av a := fun q r => by obtain ⟨o, ho⟩ := dom _ r; rw [ho] at q; cases q
  have more : ∀ a o, ¬ av a → h.get? a = some o → ¬ (av a ∨ a = X ∨ a = DX) ∧ H.get? a = some o := fun a o na q => ⟨fun r => r.elim na fun r => r.elim (fun r => by rw [r, nx] at q; cases q) (fun r => by rw [r, nd'] at q; cases q), e2 _ _ q⟩
  have full : Ats (fun a => av a ∨ a = X ∨ a = DX) H (vs ++ ex) (ds ++ dex) := (ats.mono more).append (hex _ _)
  have hvl := ats.length
  refine enterC (hA.tcall C vs []) (B.ext e2) B e2 (Ext.refl H) (h := H) (tk := tk) (binds := (self, .ref X) :: ps.zip (vs ++ ex)) (σ := (self, .m X) :: sg ps (ds ++ dex)) (μ := [(X, .inst C DX), (DX, .dict (PyData.keyHash w.params) [])]) (av := fun a => av a ∨ a = X ∨ a = DX)
    (fun Q E q => hb X vs hvl _ _ Q E (B.ext e2).K q) ?_ (fun x hx => ?_) (fun x sv q => ?_) (fun a q => ?_) (fun a mo q => ?_) (fun L av' h₁ tk₁ up lim st => ?_) hK hcd hbody hclo hgl hbl hco hgen hk
  · simp only [List.map_cons]
    rw [List.map_fst_zip (by have := full.length; omega)]; exact nd
  · rcases List.mem_cons.mp hx with rfl | hx
    · exact hkind self (.head _)
    · exact hkind _ (.tail _ (List.of_mem_zip hx).1)
  · by_cases e : x = self
    · subst e; rw [lookup_cons_eq] at q; cases q; exact ⟨_, .head _, rfl⟩
    · rw [lookup_cons_ne e] at q
      obtain ⟨v, a, b⟩ := zip_get ps _ _ full x sv q
      exact ⟨v, .tail _ a, b⟩
  · rcases q with q | rfl | rfl
    · obtain ⟨o, ho⟩ := dom a q; exact ⟨o, e2 _ _ ho⟩
    · exact ⟨_, gx⟩
    · exact ⟨_, gd⟩
  · rw [lookupM_cons] at q
    split at q
    · rename_i r; cases q; subst r; exact ⟨gx, .inr (.inl rfl), nx⟩
    · rw [lookupM_cons] at q
      split at q
      · rename_i r; cases q; subst r; exact ⟨⟨[], 0, gd, .nil, fun _ h => by cases h⟩, .inr (.inr rfl), nd'⟩
      · simp at q
  · refine (walk _ L h (fun a => av a) s X DX _ ((hA.tcall C vs []).deeper _) hne ?_).run av' h₁ tk₁ (fun a q => up a (.inl q)) (fun a mo q => ?_) st
    · intro σ' μ' av2 h' tk' up' hx hdx st'
      obtain ⟨hxo, _⟩ := st'.mu X _ hx
      obtain ⟨⟨es, m, hdo, hfs, _⟩, _⟩ := st'.mu DX _ hdx
      exact ⟨rfl, k _ h' tk' st'.ext (.inst (nav nx) (nav nd') hxo hdo (hfs.mono fun a _ na q => ⟨fun r => na (up' a r), q⟩))⟩
    · rw [lookupM_cons] at q
      split at q
      · rename_i r; subst r; exact nav nx
      · rw [lookupM_cons] at q
        split at q
        · rename_i r; subst r; exact nav nd'
        · simp at q
end
section

theorem Ats.of_get {av : AV} {h : Heap} : ∀ {vs : List Value} {ds : List D}, vs.length = ds.length → (∀ (i : Nat) v d, vs[i]? = some v → ds[i]? = some d → At av h v d) → Ats av h vs ds
  | [], [], _, _ => .nil
  | [], _ :: _, e, _ => by cases e
  | _ :: _, [], e, _ => by cases e
  | v :: vs, d :: ds, e, k => .cons (k 0 v d rfl rfl) (Ats.of_get (by simpa using e) fun i v' d' h1 h2 => k (i + 1) v' d' (by simpa using h1) (by simpa using h2))
section
variable {w : World} {A : Around} {env : Env} {σ : Sg} {μ : Mu}
theorem op_pow {i n : Int} (hn : 0 ≤ n) (hb : (Builtin.Int.intBits i : Int) * n ≤ 2 ^ 27) : OpD w A .Pow (.int i) (.int n) (.int (i ^ n.toNat)) := ⟨fun av s h tk u v Q E dm x y k => by
  obtain ⟨t, rfl⟩ := x.int; obtain ⟨t', rfl⟩ := y.int
  exact pow_int hn hb (k _ h (tk + 1) (Ext.refl h) (.int _ _))⟩
theorem pys_ints (ns : List Int) : D.pys (ns.map .int) = ns.map .int := by induction ns with | nil => rfl | cons n ns ih => simp [D.pys, D.py, ih]
theorem any_ints' (ns : List Int) (k : Int) : ((ns.map PyData.int).any fun y => PyData.eqv y (.int k)) = ns.contains k := by
  induction ns with
  | nil => rfl
  | cons n ns ih =>
    rw [List.map_cons, List.any_cons, ih, List.contains_cons]
    have : PyData.eqv (.int n) (.int k) = (k == n) := by
      rw [Bool.eq_iff_iff]; simp [PyData.eqv]; exact ⟨fun e => e.symm, fun e => e.symm⟩
    rw [this]
theorem cmp_notIn {ns : List Int} {k : Int} (hA : AOk A 7) : CmpD w A .NotIn (.int k) (.list (ns.map .int)) (!ns.contains k) := ⟨fun av s h tk u v Q E dm x y q => by
  obtain ⟨as, r1⟩ := x.reads rfl
  obtain ⟨bs, r2⟩ := y.reads (ok_lay 9 _ (ok_ints 8 ns)).2.2
  have ly := ok_lay 9 _ (ok_ints 8 ns)
  have e : (D.list (ns.map .int)).py = .list (ns.map .int) := by simp [D.py, pys_ints]
  rw [e] at r2 ly
  refine SeqAt.notIn_list_reads (s := upd s h tk) r2 r1 (by simpa [PyData.canLay0] using ly.1) rfl ?_ ?_
  · show A.units + 1 + min _ 0 < _; have := hA.un; omega
  · show Q (.bool (!(ns.map PyData.int).any fun y => PyData.eqv y (.int k))) _
    rw [any_ints']; exact q h tk (Ext.refl h)⟩
theorem ev_listrange (hh : A.handled = none) {pl pr pos rpos : Pos} {e : Expr} {b : Int} (hkl : env.kindOf "list" = some .globalImplicit) (hk : env.kindOf "range" = some .globalImplicit) (he : EvT w A env σ μ e (.int b)) (hb : -1000000 ≤ b ∧ b ≤ 1000000)
    (hx : ∀ env, starEach [e] env = (false, eval e env) :: starEach [] env := by intros; rfl)
    (hq : ∀ env, eval (.Call (.Name "list" pl) [.Call (.Name "range" pr) [e] [] rpos] [] pos) env = (do callWith pos (← eval (.Name "list" pl) env) [] (backTo pos (starEach [.Call (.Name "range" pr) [e] [] rpos] env)) (backToKw pos (keywordEach [] env))) := by intros; rfl) :
    Ev w A env σ μ (.Call (.Name "list" pl) [.Call (.Name "range" pr) [e] [] rpos] [] pos) (.list ((zints 0 b.toNat).map .int)) := ⟨fun g av s h tk Q E st k => by
  refine Call_ (ld_glob st hkl gl_list ?_ (by decide)) (hq env)
  refine callWith_of (P := fun _ => True) rfl (keeps_machine rfl) (evalArgs_plain (spliced_cons (callB_raw st hk gl_range (argsT_cons he argsT_nil hx) (fun vs h1 tk1 e1 a1 => ?_) (hx := hx))))
  obtain ⟨v, rfl, q⟩ := a1.one
  obtain ⟨t, rfl⟩ := q.int
  refine call_range_1 (s := upd s h1 tk1) (spliced_nil ⟨trivial, ?_⟩)
  have e0 : Builtin.Range.rangeSize 0 b 1 = ((b.toNat : Nat) : Int) := by rw [rangeSize_one]; split <;> omega
  refine call_list_range (s := upd s (h1.push _) (tk1 + 1 + 1)) hh (Heap.get?_push_size _ rfl) (small_le (by omega)) e0 (by omega) fun h' tk' acc' c' keep ho hI => ?_
  have ex : Ext h h' := (e1.trans (Ext.push _ _)).trans keep
  refine k _ h' tk' ex (.list (vs := acc'.toList) (n := c') (fun r => ?_) (by simpa using ho) (Ats.of_get ?_ fun i v d h1 h2 => ?_))
  · obtain ⟨o, q⟩ := (st.grow (e1.trans (Ext.push _ _))).dom _ r; exact Nat.lt_irrefl _ (Heap.lt_size q)
  · rw [List.length_map, ints_length, Array.length_toList]; exact hI.1
  · obtain ⟨t, rfl⟩ := hI.2 i v (by simpa using h1)
    rw [List.getElem?_map] at h2
    have hi : i < b.toNat := by
      rcases Nat.lt_or_ge i b.toNat with q | q
      · exact q
      · rw [List.getElem?_eq_none (by rw [ints_length]; exact q)] at h2; cases h2
    rw [ints_get _ _ _ hi] at h2
    cases h2
    rw [Int.mul_one]; exact .int _ _⟩
end
end
section
open PySem.F

/-! a set of at most one text -/
def byText (w : World) : Bool := w.params.followText "set-order"
def oneTable (i : Nat) (led : Bool) : SetTable := { mask := 7, place := #[i], dummies := #[], finger := 0, led := led, moves := 0, plain := false }
def SetP (w : World) : Option Str → Obj → Prop
  | none, o => ∃ led, o = { cls := .type "set", dict := none, data := .set #[] 0 (.fresh 0 0 led) }
  | some x, o => ∃ t i, o = { cls := .type "set", dict := none, data := .set #[(hashStr w x, .str x t)] 1 (oneTable i (!byText w)) }
theorem isStr_self (x : Str) (t : Tok) : Value.isStrOf x (.str x t) = true := by simp [Value.isStrOf]
theorem isStr_iff (x y : Str) (t : Tok) : Value.isStrOf x (.str y t) = true ↔ x = y := ⟨fun h => by obtain ⟨u, e⟩ := Value.isStrOf_shape h; injection e with e _; exact e.symm, fun h => h ▸ isStr_self x t⟩
theorem SetP.of {w : World} {m : Option Str} {o : Obj} {h : Heap} {a : Addr} (ho : h.get? a = some o) (hp : SetP w m o) : h.SetOf (strKind P0 w) a (fun k => m == some k) (match m with | none => 0 | some _ => 1) := by
  cases m with
  | none =>
    obtain ⟨led, rfl⟩ := hp
    exact ⟨_, #[], 0, _, ho, ⟨rfl, rfl, rfl⟩, rfl, fun e he => by simp at he, fun k => by simp, by decide, rfl, rfl⟩
  | some x =>
    obtain ⟨t, i, rfl⟩ := hp
    refine ⟨_, _, 1, _, ho, ⟨rfl, rfl, rfl⟩, rfl, fun e he => ?_, fun k => ?_, by show 1 < 4096; decide, rfl, rfl⟩
    · have he' : e = (hashStr w x, .str x t) := by simpa using he
      subst he'
      exact ⟨⟨x, isStr_self x t, rfl⟩, rfl⟩
    · show (some x == some k) = true ↔ ∃ e ∈ [(hashStr w x, Value.str x t)], Value.isStrOf k e.2 = true
      simp [isStr_iff]
      exact ⟨fun e => e.symm, fun e => e.symm⟩
section
variable {w : World} {A : Around}
theorem cmp_inSet {m : Option Str} {x : Str} : CmpD w A .In (.str x) (.leaf (fun _ => SetP w m)) (m == some x) := ⟨fun av s h tk u v Q E dm a b k => by
  obtain ⟨t, rfl⟩ := a.str
  rcases b with b | ⟨_, _, _, _, _, e, _⟩
  · cases b with
    | leaf hn ho hp => exact wpAny_inSet_of (s := upd s h tk) (knd := strKind P0 w) (isStr_self x t) rfl (SetP.of ho hp) (k h (tk + 1) (Ext.refl h))
  · cases e⟩
end

/-! the iterator of a set -/
theorem owner_seti : Manifest.owners.lookup (String.ofList ['r', 'o', 't', 'a', 'r', 'e', 't', 'i', '_', 't', 'e', 's'].reverse) = some Manifest.sig_set_iterator := by kernel_rfl
theorem slot_seti_next : Slot "set_iterator" "__next__" "set_iterator.__next__" :=
  .of (owner := "set_iterator") (n := "__next__") (by rw [typeLookup_type, builtinLookup_eq_fast]; kernel_rfl) (by decide +kernel) (by decide +kernel) (by decide +kernel)
    (by first | exact .inl (by decide +kernel) | exact .inr (by decide +kernel)) (by rw [isSubtype_type]; kernel_rfl)
theorem entry_seti_next : entryFor table "set_iterator.__next__" = some Builtin.«set_iterator.__next__» := entryFor_of_tree (by kernel_rfl)
theorem args_seti_next (a : Value) : argsOk "set_iterator.__next__" ⟨[a], []⟩ := by
  unfold argsOk; rw [signature?_of (id := "set_iterator.__next__") (n := ['_', '_', 't', 'x', 'e', 'n', '_', '_']) (o := ['r', 'o', 't', 'a', 'r', 'e', 't', 'i', '_', 't', 'e', 's']) (by kernel_rfl) owner_seti]; kernel_rfl
theorem slot_seti_iter : Slot "set_iterator" "__iter__" "set_iterator.__iter__" :=
  .of (owner := "set_iterator") (n := "__iter__") (by rw [typeLookup_type, builtinLookup_eq_fast]; kernel_rfl) (by decide +kernel) (by decide +kernel) (by decide +kernel)
    (by first | exact .inl (by decide +kernel) | exact .inr (by decide +kernel)) (by rw [isSubtype_type]; kernel_rfl)
theorem entry_seti_iter : entryFor table "set_iterator.__iter__" = some Builtin.«dict_keyiterator.__iter__» := entryFor_alias (id' := "dict_keyiterator.__iter__") (by kernel_rfl) rfl (by decide +kernel) (by kernel_rfl)
theorem args_seti_iter (a : Value) : argsOk "set_iterator.__iter__" ⟨[a], []⟩ := by
  unfold argsOk; rw [signature?_of (id := "set_iterator.__iter__") (n := ['_', '_', 'r', 'e', 't', 'i', '_', '_']) (o := ['r', 'o', 't', 'a', 'r', 'e', 't', 'i', '_', 't', 'e', 's']) (by kernel_rfl) owner_seti]; kernel_rfl
theorem entry_set_iter : entryFor table "set.__iter__" = some Builtin.«frozenset.__iter__» := entryFor_alias (id' := "frozenset.__iter__") (by kernel_rfl) rfl (by decide +kernel) (by kernel_rfl)

abbrev setItO (S : Addr) (slot given n ep : Nat) : Obj := { cls := .type "set_iterator", data := .fields #[rawInt slot, rawInt given, .ref S, rawInt n, rawInt ep] }
def cnt : Option Str → Nat
  | none => 0
  | some _ => 1
def epo : Option Str → Nat
  | none => 0
  | some _ => 1
def itemsOf : Option Str → List Str
  | none => []
  | some x => [x]
end
section
abbrev set1O (w : World) (x : Str) (t : Tok) (i : Nat) : Obj := { cls := .type "set", dict := none, data := .set #[(hashStr w x, .str x t)] 1 (oneTable i (!byText w)) }
theorem below_zero (i : Nat) : SetTable.below #[i] 0 = 0 := by
  unfold SetTable.below SetTable.below.go; simp [SetTable.below.go]
theorem below_succ (i : Nat) : SetTable.below #[i] (i + 1) = 1 := by
  unfold SetTable.below SetTable.below.go; simp [SetTable.below.go]
section
variable {w : World} {A : Around} {E : Value → Shared → Prop} {s : Shared}
theorem next_first {x : Str} {t : Tok} {i : Nat} {S : Addr} {Q : Option (Value × Nat) → Shared → Prop} (ho : s.heap.get? S = some (set1O w x t i)) (k : ∀ n, (byText w = false → n = i + 1) → Q (some (.str x t, n)) s) : wpAny (model P0 w) A (setNext S 0 0 1) Q E s := by
  unfold setNext
  refine wpAny_bind (wpAny_setState_of ho rfl rfl ?_)
  dsimp only
  unfold setsByText
  refine wpAny_bind (wpAny_bind (wpAny_askSetting (wpAny_pure ?_)))
  dsimp only
  cases hb : byText w with
  | true =>
    have hb' : (model P0 w).w.params.followText "set-order" = true := hb
    rw [if_pos hb', if_neg (by decide)]
    unfold setWalk
    refine wpAny_bind (wpAny_bind (wpAny_setState_of ho rfl rfl ?_))
    dsimp only
    unfold setsByText
    refine wpAny_bind (wpAny_bind (wpAny_askSetting (wpAny_pure ?_)))
    dsimp only
    rw [if_pos hb']
    refine wpAny_bind (wpAny_askSetting (wpAny_pure (wpAny_pure ?_)))
    have e : ∀ f : Nat → Nat, pickOrder f #[(hashStr w x, Value.str x t)] = #[(hashStr w x, Value.str x t)] := fun f => by
      unfold pickOrder; simp [pickOrder.go, Nat.mod_one]
    rw [e]
    exact k 0 (fun q => by rw [hb] at q; cases q)
  | false =>
    have hb' : (model P0 w).w.params.followText "set-order" = false := hb
    rw [if_neg (by rw [hb']; decide)]
    have e : (PySem.SetTable.below (oneTable i (!false)).place 0) = 0 := below_zero i
    rw [e]
    exact wpAny_bind (wpAny_pure (wpAny_pure (k (i + 1) fun _ => rfl)))
theorem next_end {x : Str} {t : Tok} {i n : Nat} {S : Addr} {Q : Option (Value × Nat) → Shared → Prop} (ho : s.heap.get? S = some (set1O w x t i)) (hn : byText w = false → n = i + 1) (k : Q none s) : wpAny (model P0 w) A (setNext S n 1 1) Q E s := by
  unfold setNext
  refine wpAny_bind (wpAny_setState_of ho rfl rfl ?_)
  dsimp only
  unfold setsByText
  refine wpAny_bind (wpAny_bind (wpAny_askSetting (wpAny_pure ?_)))
  dsimp only
  cases hb : byText w with
  | true =>
    have hb' : (model P0 w).w.params.followText "set-order" = true := hb
    rw [if_pos hb', if_neg (by decide)]
    unfold setWalk
    refine wpAny_bind (wpAny_bind (wpAny_setState_of ho rfl rfl ?_))
    dsimp only
    unfold setsByText
    refine wpAny_bind (wpAny_bind (wpAny_askSetting (wpAny_pure ?_)))
    dsimp only
    rw [if_pos hb']
    refine wpAny_bind (wpAny_askSetting (wpAny_pure (wpAny_pure ?_)))
    have e : ∀ f : Nat → Nat, pickOrder f #[(hashStr w x, Value.str x t)] = #[(hashStr w x, Value.str x t)] := fun f => by
      unfold pickOrder; simp [pickOrder.go, Nat.mod_one]
    rw [e]
    exact k
  | false =>
    have hb' : (model P0 w).w.params.followText "set-order" = false := hb
    rw [if_neg (by rw [hb']; decide)]
    have e : (PySem.SetTable.below (oneTable i (!false)).place n) = 1 := by rw [hn hb]; exact below_succ i
    rw [e]
    exact wpAny_bind (wpAny_pure (wpAny_pure k))
theorem next_empty {led : Bool} {n m : Nat} {S : Addr} {Q : Option (Value × Nat) → Shared → Prop} (ho : s.heap.get? S = some { cls := .type "set", dict := none, data := .set #[] 0 (.fresh 0 0 led) }) (k : Q none s) : wpAny (model P0 w) A (setNext S n m 0) Q E s := by
  unfold setNext
  refine wpAny_bind (wpAny_setState_of ho rfl rfl ?_)
  dsimp only
  unfold setsByText
  refine wpAny_bind (wpAny_bind (wpAny_askSetting (wpAny_pure ?_)))
  dsimp only
  cases hb : byText w with
  | true =>
    have hb' : (model P0 w).w.params.followText "set-order" = true := hb
    rw [if_pos hb', if_neg (by decide)]
    unfold setWalk
    refine wpAny_bind (wpAny_bind (wpAny_setState_of ho rfl rfl ?_))
    dsimp only
    unfold setsByText
    refine wpAny_bind (wpAny_bind (wpAny_askSetting (wpAny_pure ?_)))
    dsimp only
    rw [if_pos hb']
    refine wpAny_bind (wpAny_askSetting (wpAny_pure (wpAny_pure ?_)))
    exact k
  | false =>
    have hb' : (model P0 w).w.params.followText "set-order" = false := hb
    rw [if_neg (by rw [hb']; decide)]
    cases led <;> exact wpAny_bind (wpAny_pure (wpAny_pure k))
end
end
section
abbrev set0O (led : Bool) : Obj := { cls := .type "set", dict := none, data := .set #[] 0 (.fresh 0 0 led) }
section
variable {w : World} {A : Around} {E : Value → Shared → Prop} {s : Shared}
theorem seti_item {x : Str} {t : Tok} {i : Nat} {S I : Addr} {Q : Option Value → Shared → Prop} (hI : s.heap.get? I = some (setItO S 0 0 1 1)) (ho : s.heap.get? S = some (set1O w x t i))
    (k : ∀ n h', (byText w = false → n = i + 1) → h'.get? I = some (setItO S n 1 1 1) → Heap.SameBut I s.heap h' → Q (some (.str x t)) { s with heap := h' }) : wpAny (model P0 w) A (pyNext (.ref I)) Q E s := by
  have hT : s.TypeIs (.ref I) "set_iterator" := ⟨_, hI, rfl⟩
  unfold pyNext
  refine wpAny_bind (wpAny_attempt (wpAny_callSpecial?_slot (name := Str.ofString "__next__") hT slot_seti_next (wpAny_call_entry slot_seti_next hT entry_seti_next ?_ (args_seti_next _))))
  unfold Builtin.«set_iterator.__next__»
  show wpAny _ _ (fieldsOf (.ref I) >>= _) _ _ s
  refine wpAny_bind (wpAny_fieldsOf hI rfl ?_)
  dsimp only
  show wpAny _ _ (setEntries S >>= _) _ _ s
  refine wpAny_bind (wpAny_setEntries_of ho rfl rfl ?_)
  show wpAny _ _ (setNext S 0 0 1 >>= _) _ _ s
  refine wpAny_bind (next_first ho fun n hn => ?_)
  dsimp only
  have g1 : ((s.heap.update I (Obj.mapFields (·.setIfInBounds 0 (rawInt n))))).get? I = some (setItO S n 0 1 1) := Heap.get?_update_self _ hI rfl
  refine wpAny_bind (wpAny_setField hI rfl (Nat.le_of_ble_eq_true rfl) (wpAny_bind (wpAny_setField (s := { s with heap := _ }) g1 rfl (Nat.le_of_ble_eq_true rfl) (wpAny_pure ⟨_, rfl, wpAny_pure ?_⟩))))
  exact k n _ hn (Heap.get?_update_self _ g1 rfl) ((Heap.SameBut.update ..).trans (Heap.SameBut.update ..))
theorem seti_end {S I : Addr} {n g m ep : Nat} {es : Array (Int × Value)} {tb : SetTable} {Q : Option Value → Shared → Prop} (hh : A.handled = none) (hI : s.heap.get? I = some (setItO S n g m ep)) (ho : s.heap.get? S = some { cls := .type "set", dict := none, data := .set es ep tb }) (hf : tb.fits es.size = true) (hm : es.size = m)
    (hn : ∀ (Q' : Option (Value × Nat) → Shared → Prop) (E' : Value → Shared → Prop), Q' none s → wpAny (model P0 w) A.in1 (setNext S n g ep) Q' E' s)
    (k : ∀ h', Heap.ExtBut I s.heap h' → Q none { s with heap := h' }) : wpAny (model P0 w) A (pyNext (.ref I)) Q E s := by
  have hT : s.TypeIs (.ref I) "set_iterator" := ⟨_, hI, rfl⟩
  unfold pyNext
  refine wpAny_bind (wpAny_attempt (wpAny_callSpecial?_slot (name := Str.ofString "__next__") hT slot_seti_next (wpAny_call_entry slot_seti_next hT entry_seti_next ?_ (args_seti_next _))))
  unfold Builtin.«set_iterator.__next__»
  show wpAny _ _ (fieldsOf (.ref I) >>= _) _ _ s
  refine wpAny_bind (wpAny_fieldsOf hI rfl ?_)
  dsimp only
  show wpAny _ _ (setEntries S >>= _) _ _ s
  refine wpAny_bind (wpAny_setEntries_of ho rfl hf ?_)
  subst hm
  have e : (((es.size : Nat) : Int) != ((es.size : Nat) : Int)) = false := by simp
  rw [e, if_neg (by decide)]
  show wpAny _ _ (setNext S n g ep >>= _) _ _ s
  refine wpAny_bind (hn _ _ ?_)
  dsimp only
  refine wpAny_bind (wpAny_setField hI rfl (Nat.le_of_ble_eq_true rfl) ?_)
  show wpAny _ _ (newExc (.type "StopIteration") [] >>= _) _ _ _
  refine wpAny_bind ?_
  simp only [newExc, newTuple]
  refine wpAny_bind (wpAny_newObj_type ?_ (by size_fits))
  refine wpAny_bind (m := firstArgMember _ _) (wpAny_of_eq (a := Value.none) (by first | rfl | (simp only [firstArgMember]; rfl)) ?_)
  refine wpAny_newObj_type ?_ (by size_fits)
  simp only [raiseNew]
  refine wpAny_bind (wpAny_handled ?_)
  rw [show A.in1.handled = none from hh]
  refine wpAny_bind (wpAny_pure (wpAny_throw ?_))
  refine wpAny_bind (wpAny_isInstance (T := "StopIteration") (b := true) ⟨_, Heap.get?_push_size _ rfl, rfl⟩ isSubtype_stop ?_)
  exact wpAny_pure (k _ (((Heap.SameBut.update ..).extBut.push _).push _))
theorem seti_iter {S I : Addr} {n g m ep : Nat} {Q : Value → Shared → Prop} (hI : s.heap.get? I = some (setItO S n g m ep)) (k : Q (.ref I) s) : wpAny (model P0 w) A (pyIter (.ref I)) Q E s := by
  have hT : s.TypeIs (.ref I) "set_iterator" := ⟨_, hI, rfl⟩
  refine wpAny_pyIter_slot hT slot_seti_iter (wpAny_call_entry slot_seti_iter hT entry_seti_iter ?_ (args_seti_iter _))
  show wpAny _ _ (ret (.ref I)) _ _ s
  exact wpAny_pure ⟨_, rfl, "set_iterator", _, hT, slot_seti_next.lookup, k⟩
theorem iter_set {S : Addr} {es : Array (Int × Value)} {ep : Nat} {tb : SetTable} {Q : Value → Shared → Prop} (ho : s.heap.get? S = some { cls := .type "set", dict := none, data := .set es ep tb }) (hf : tb.fits es.size = true) (hm : es.size ≤ 1)
    (k : Q (.ref s.heap.objs.size) { s with heap := s.heap.push (setItO S 0 0 es.size ep) }) : wpAny (model P0 w) A (pyIter (.ref S)) Q E s := by
  have hT : s.TypeIs (.ref S) "set" := ⟨_, ho, rfl⟩
  refine wpAny_pyIter_slot hT F.slot_set_iter (wpAny_call_entry F.slot_set_iter hT entry_set_iter ?_ (F.args_set_iter_1 _))
  unfold Builtin.«frozenset.__iter__»
  show wpAny _ _ (Builtin.Frozenset.sizeOf S >>= _) _ _ s
  unfold Builtin.Frozenset.sizeOf
  refine wpAny_bind (wpAny_bind (wpAny_setEntries_of ho rfl hf (wpAny_pure ?_)))
  unfold setDrawn
  refine wpAny_bind (wpAny_bind (wpAny_setState_of ho rfl hf ?_))
  dsimp only
  unfold setsByText
  refine wpAny_bind (wpAny_bind (wpAny_askSetting (wpAny_pure (wpAny_pure ?_))))
  split
  · rename_i h
    have h2 : (!tb.plain && decide (es.size > 1)) = true := (Bool.and_eq_true_iff.mp h).2
    rw [Bool.and_eq_true, decide_eq_true_eq] at h2
    omega
  · refine wpAny_bind (wpAny_pure ?_)
    unfold setEpoch
    refine wpAny_bind (wpAny_bind (wpAny_setState_of ho rfl hf (wpAny_pure ?_)))
    simp only [newFields]
    refine wpAny_bind (wpAny_newObj_type (wpAny_pure ⟨_, rfl, "set_iterator", _, ⟨_, Heap.get?_push_size _ rfl, rfl⟩, slot_seti_next.lookup, ?_⟩))
    exact k
/-- walks a set -/
theorem It.set {av : AV} {I S : Addr} {m : Option Str} {o : Obj} (hh : A.handled = none) (hI : av I) (hS : ¬ av S) (hp : SetP w m o) :
    It false w A av I [I] (fun j h => h.get? S = some o ∧ ∃ n, h.get? I = some (setItO S n j (cnt m) (epo m)) ∧ (j = 0 → n = 0) ∧ (j = 1 → byText w = false → ∀ x t i, o = set1O w x t i → n = i + 1)) ((itemsOf m).map .str) where
  self := List.mem_singleton.mpr rfl
  alive := fun i h st b hb => by cases List.mem_singleton.mp hb; obtain ⟨_, n, ho, _⟩ := st; exact ⟨_, ho⟩
  frame := fun i h h' st k => ⟨k S _ (.inr hS) st.1, let ⟨n, a, b⟩ := st.2; ⟨n, k I _ (.inl (List.mem_singleton.mpr rfl)) a, b⟩⟩
  next := fun target j d s h tk Q E htg avc hc wc st hd dom k => by
    obtain ⟨h1, n, h2, h3, h4⟩ := st
    cases m with
    | none => simp [itemsOf] at hd
    | some x =>
      cases j with
      | succ j => simp [itemsOf] at hd
      | zero =>
        obtain ⟨t, i, rfl⟩ := hp
        have := h3 rfl; subst this
        have hd' : d = .str x := by simpa [itemsOf] using hd.symm
        subst hd'
        refine seti_item (s := upd s h tk) h2 h1 fun n h' hn hI' sb => ⟨_, rfl, ?_⟩
        refine letGo_plain (s := upd s h' tk) hI' rfl rfl (by decide) ?_
        refine k _ h' tk ⟨(sb.2 S fun e => hS (e ▸ hI)).trans h1, n, hI', (fun e => by cases e), fun _ hb x' t' i' e => ?_⟩ (fun b o nb e => (sb.2 b fun q => nb (List.mem_singleton.mpr q)).trans e) (.str _ _)
        rw [hn hb]
        have e2 := congrArg Obj.data e
        simp only [Data.set.injEq] at e2
        have e3 := congrArg SetTable.place e2.2.2
        simp [oneTable] at e3
        rw [e3]
  done := fun s h tk Q E st k => by
    obtain ⟨h1, n, h2, h3, h4⟩ := st
    cases m with
    | none =>
      obtain ⟨led, rfl⟩ := hp
      refine seti_end (s := upd s h tk) hh h2 h1 rfl rfl (fun Q' E' q => next_empty (s := upd s h tk) h1 q) fun h' he => ⟨rfl, k h' tk fun b o nb e => he b o (fun q => nb (List.mem_singleton.mpr q)) e⟩
    | some x =>
      obtain ⟨t, i, rfl⟩ := hp
      refine seti_end (s := upd s h tk) hh h2 h1 rfl rfl (fun Q' E' q => next_end (s := upd s h tk) h1 (fun hb => h4 rfl hb _ _ _ rfl) q) fun h' he => ⟨rfl, k h' tk fun b o nb e => he b o (fun q => nb (List.mem_singleton.mpr q)) e⟩
  again := fun i s h tk Q E st k => by
    obtain ⟨h1, n, h2, _⟩ := st
    exact seti_iter (s := upd s h tk) h2 k
end
section
variable {w : World} {A : Around} {env : Env} {σ : Sg} {μ : Mu}
theorem src_set (hh : A.handled = none) {e : Expr} {m : Option Str} (he : Ev w A env σ μ e (.leaf (fun _ => SetP w m))) : Src false w A env σ μ e ((itemsOf m).map .str) := ⟨fun g av s h tk Q E st k => by
  refine he.run g av s h tk _ E st fun v h1 tk1 e1 a1 => ?_
  cases a1 with
  | @leaf S o _ na ho hp =>
    have fin : ∀ es ep tb, o = { cls := .type "set", dict := none, data := .set es ep tb } → tb.fits es.size = true → es.size = cnt m → ep = epo m → wpAny (model P0 w) A (pyIter (.ref S)) Q E (upd s h1 tk1) := fun es ep tb eo hf hc hep => by
      subst eo
      have hle : es.size ≤ 1 := by rw [hc]; cases m <;> simp [cnt]
      refine iter_set (s := upd s h1 tk1) ho hf hle ?_
      refine k _ [h1.objs.size] (h1.push _) tk1 (fun av' up inn mo => ?_) (e1.trans (Ext.push _ _)) (fun b hb => by cases List.mem_singleton.mp hb; exact ⟨not_before e1 (not_here h1), _, Heap.get?_push_size _ rfl⟩)
      refine ⟨_, It.set hh (inn _ (List.mem_singleton.mpr rfl)) (fun q => ?_) hp, Heap.get?_push_of_some _ ho, 0, ?_, fun _ => rfl, fun e => by cases e⟩
      · rcases mo S q with q | q | q
        · exact na q
        · exact absurd (List.mem_singleton.mp q) (Nat.ne_of_lt (Heap.lt_size ho))
        · rw [Heap.get?_push_of_some _ ho] at q; cases q
      · subst hep; rw [← hc]; exact Heap.get?_push_size _ rfl
    cases m with
    | none => obtain ⟨led, rfl⟩ := hp; exact fin _ _ _ rfl rfl rfl rfl
    | some x => obtain ⟨t, i, rfl⟩ := hp; exact fin _ _ _ rfl rfl rfl rfl⟩
end
end
section
theorem layNew_one (led : Bool) (h : Int) (x : Value) : layNew (.fresh 0 0 led) #[] h x = (#[(h, x)], { mask := 7, place := #[SetTable.bits h % 8], dummies := #[], finger := 0, led := led, moves := 0, plain := true }, false, false) := by
  rfl
section
variable {w : World} {A : Around} {E : Value → Shared → Prop} {s : Shared}
theorem add_first {S : Addr} {led : Bool} {x : Str} {t : Tok} {Q : Bool → Shared → Prop} (ho : s.heap.get? S = some (set0O led))
    (k : ∀ h' i, Heap.SameBut S s.heap h' → h'.get? S = some { cls := .type "set", dict := none, data := .set #[(hashStr w x, .str x t)] 1 (oneTable i led) } → Q true { s with heap := h', toks := s.toks + 1 }) : wpAny (model P0 w) A (setAdd S (.str x t)) Q E s := by
  unfold setAdd
  refine wpAny_holding (wpAny_bind ((strKind P0 w).pyHash (k := x) (isStr_self x t) ?_))
  show wpAny (model P0 w) A (setAddHashed S (.str x t) (hashStr w x)) Q E { s with toks := s.toks + 1 }
  have ho' : ({ s with toks := s.toks + 1 } : Shared).heap.get? S = some (set0O led) := ho
  unfold setAddHashed setAddHashedIn
  refine wpAny_holding (wpAny_bind (wpAny_setState_of ho' rfl rfl ?_))
  dsimp only
  have hb : byScan (.str x t) #[] = true := by simp [byScan, Value.scannable, scanBound]
  rw [hb]
  simp only [↓reduceIte]
  unfold setAddByScan
  refine wpAny_bind ?_
  refine wpAny_bind (wpAny_rule ?_)
  have hel : ElemsOf (strKind P0 w) (#[] : Array (Int × Value)).toList := fun e he => by simp at he
  refine wpAny_bind (wpAny_setScan_of (knd := strKind P0 w) (k := x) (isStr_self x t) ho' rfl rfl hel ?_)
  dsimp only [List.findIdx?_nil]
  rw [layNew_one]
  dsimp only
  refine wpAny_bind (wpAny_pure ?_)
  simp only [if_true]
  refine wpAny_bind ?_
  rw [hashByValue_scannable 8 (x := .str x t) rfl]
  refine wpAny_pure ?_
  simp only [plainKind, Bool.false_eq_true, if_false]
  refine wpAny_bind (wpAny_storeSet_of ho' rfl ?_ (by size_fits))
  have hg := (SetOf_store (knd := strKind P0 w) (o := set0O led) (es := #[]) (ep := 0) (t := .fresh 0 0 led) (es' := #[(hashStr w x, .str x t)]) (t' := oneTable (SetTable.bits (hashStr w x) % 8) led) (S' := fun k => k == x) ho' ⟨rfl, rfl, rfl⟩ rfl (fun e he => by
    have he' : e = (hashStr w x, .str x t) := by simpa using he
    subst he'
    exact ⟨⟨x, isStr_self x t, rfl⟩, rfl⟩) (fun k => by show (k == x) = true ↔ ∃ e ∈ [(hashStr w x, Value.str x t)], Value.isStrOf k e.2 = true; simp [isStr_iff]) (by show 1 < 4096; decide) rfl).1
  refine wpAny_pure (wpAny_pure ?_)
  exact k _ _ (Heap.SameBut.update ..) hg

theorem set_new_led (a : Value) {Q₁ : Value → Shared → Prop} (h : Q₁ (.ref s.heap.objs.size) { s with heap := s.heap.push (set0O (!byText w)) }) : codeAny (model P0 w) A (.call (.builtin "set.__new__") ⟨[.type "set", a], []⟩) (wants Q₁ E) s := by
  refine codeAny_of_tree ?_
  show wpAny _ A.in1 (do checkBuiltinCall "set.__new__" ⟨[.type "set", a], []⟩; again (.builtin "set.__new__" ⟨[.type "set", a], []⟩)) _ _ s
  refine wpAny_bind (wpAny_of_eq (F.newCall_set_1 a) (wpAny_pure ⟨plainId_quiet F.plain_set_new _, codeAny_builtin F.entry_set_new ?_⟩))
  rw [Around.under_plainId F.plain_set_new _]
  unfold Builtin.«set.__new__» Builtin.Frozenset.newClass
  have hsub := sub_set_self
  obtain ⟨hp, g, d, tk, os⟩ := s
  dsimp only
  wp_walk
  refine wpAny_askSetting (wpAny_pure ?_)
  dsimp only
  simp only [newObj]
  refine wpAny_bind (wpAny_alloc (wpAny_pure ?_))
  exact wpAny_pure h

theorem loop_one {S I l : Addr} {led : Bool} {x : Str} {t : Tok} {R : Result → Shared → Prop} (hh : A.handled = none) (hI : s.heap.IsListIter I l 0) (hl : s.heap.IsList l #[.str x t]) (hS : s.heap.get? S = some (set0O led)) (n1 : S ≠ I) (n2 : l ≠ I) (n3 : l ≠ S)
    (k : ∀ h' tk' i, (∀ b o, b ≠ S → b ≠ I → s.heap.get? b = some o → h'.get? b = some o) → h'.get? S = some { cls := .type "set", dict := none, data := .set #[(hashStr w x, .str x t)] 1 (oneTable i led) } → R (.ok (.ret .none)) { s with heap := h', toks := tk' }) :
    codeAny (model P0 w) A (.builtin "set.update.loop" ⟨[.ref S, .ref I], []⟩) R s := by
  refine codeAny_builtin F.entry_set_update_loop ?_
  rw [Around.under_plainId F.plain_set_update_loop _]
  show wpAny _ A.in1 (pyNext (.ref I) >>= _) _ _ s
  refine wpAny_bind (wpAny_pyNext_list_item hI hl (x := .str x t) rfl fun h1 hI1 sb1 => ?_)
  show wpAny _ A.in1 (holding [Value.str x t] (setAdd S (.str x t)) >>= _) _ _ _
  refine wpAny_bind (wpAny_holding (add_first (s := { s with heap := h1 }) ((sb1.2 S n1).trans hS) fun h2 i sb2 hS2 => ?_))
  refine wpAny_pure ⟨plainId_quiet F.plain_set_update_loop _, ?_⟩
  refine codeAny_builtin F.entry_set_update_loop ?_
  rw [Around.under_plainId F.plain_set_update_loop _]
  show wpAny _ A.in1 (pyNext (.ref I) >>= _) _ _ _
  have hI2 : h2.IsListIter I l 1 := hI1.at fun o e => (sb2.2 I (Ne.symm n1)).trans e
  have hl2 : h2.IsList l #[.str x t] := hl.at fun o e => (sb2.2 l n3).trans ((sb1.2 l n2).trans e)
  refine wpAny_bind (wpAny_pyNext_list_end (A := A.in1) (s := { s with heap := h2, toks := s.toks + 1 }) hh hI2 hl2 rfl fun h3 he => ?_)
  show wpAny _ A.in1 (ret Value.none) _ _ _
  exact wpAny_pure (k h3 _ i (fun b o b1 b2 e => he b o b2 ((sb2.2 b b1).trans ((sb1.2 b b2).trans e))) (he S _ n1 hS2))
set_option maxHeartbeats 3200000 in
/-- set([x]) -/
theorem set_of_one {l : Addr} {x : Str} {t : Tok} {n : Nat} {Q : Value → Shared → Prop} (hh : A.handled = none) (hl : s.heap.get? l = some (lstO [.str x t] n))
    (k : ∀ h' tk' i, (∀ b o, s.heap.get? b = some o → h'.get? b = some o) → h'.get? s.heap.objs.size = some (set1O w x t i) → Q (.ref s.heap.objs.size) { s with heap := h', toks := tk' }) :
    wpAny (model P0 w) A (call (.type "set") [.ref l]) Q E s := by
  obtain ⟨c, tl, hmro⟩ := F.called_set.mro
  have hmade := F.called_set.made
  have hsub := F.called_set.sub
  refine wpAny_call (codeAny_of_tree ?_)
  show wpAny _ _ (callAny (.type "set") _) _ _ _
  refine wpAny_pure ⟨Code.quiet_builtin _ (by decide +kernel), codeAny_builtin F.entry_type_call ?_⟩
  rw [Around.under_plain (weight_type_call_type "set" [.ref l] []) rfl]
  have h1 := F.called_set.notType
  have h2 := F.called_set.canCreate
  have hct := F.typeCall_set_1 (.ref l)
  repeat (any_goals (first | assumption | wp_step))
  refine codeAny_mono (set_new_led (.ref l) (E := E) (Q₁ := fun obj s₁ => obj = .ref s.heap.objs.size ∧ s₁ = { s with heap := s.heap.push (set0O (!byText w)) }) ⟨rfl, rfl⟩) fun r s₁ hr => ?_
  cases r with
  | error e => exact hr
  | ok fl =>
    cases fl with
    | ret obj =>
      obtain ⟨rfl, rfl⟩ := hr
      have hS : (s.heap.push (set0O (!byText w))).get? s.heap.objs.size = some (set0O (!byText w)) := Heap.get?_push_size _ rfl
      have hT : Shared.TypeIs { s with heap := s.heap.push (set0O (!byText w)) } (.ref s.heap.objs.size) "set" := ⟨_, hS, rfl⟩
      have hli := F.called_set.init.lookup
      have hbi := F.called_set.init.bind (.ref s.heap.objs.size)
      repeat (any_goals (first | assumption | wp_step))
      refine codeAny_mono (codeAny_call_builtin (R := wants (fun r s₂ => r = .none ∧ ∃ h' tk i, s₂ = { s with heap := h', toks := tk } ∧ (∀ b o, s.heap.get? b = some o → h'.get? b = some o) ∧ h'.get? s.heap.objs.size = some (set1O w x t i)) E) F.called_set.init.plain F.entry_set_init (check_set_init_1 hT ?_)) fun r₂ s₂ hr₂ => ?_
      · have hol' : (s.heap.push (set0O (!byText w))).get? l = some { cls := .type "list", dict := none, data := .seq #[.str x t] n, slots := #[] } := Heap.get?_push_of_some _ hl
        have hsls := F.sub_list_set
        have hslf := F.sub_list_frozenset
        have hne : (Value.type "list" == Value.type "dict") = false := by decide
        have hl1 : (s.heap.push (set0O (!byText w))).IsList l #[.str x t] := ⟨_, hol', rfl, n, rfl⟩
        unfold Builtin.«set.__init__» noKeywords Builtin.Frozenset.updateFrom
        generalize hPI : pyIter = PI
        wp_walk
        subst hPI
        refine wpAny_pyIter_list hl1 ?_
        refine wpAny_bind (wpAny_runValue ?_)
        have hlS : l < s.heap.objs.size := Heap.lt_size hl
        have hsz : (s.heap.push (set0O (!byText w))).objs.size = s.heap.objs.size + 1 := Heap.size_push ..
        refine loop_one (S := s.heap.objs.size) (l := l) (led := !byText w) (x := x) (t := t) hh ⟨_, Heap.get?_push_size _ rfl, rfl, rfl⟩ (hl1.push _) (Heap.get?_push_of_some _ hS) (by rw [hsz]; exact Nat.ne_of_lt (Nat.lt_succ_self _)) (by rw [hsz]; exact Nat.ne_of_lt (Nat.lt_succ_of_lt hlS)) (Nat.ne_of_lt hlS) fun h' tk' i kp hs1 => ?_
        show wpAny _ _ _ _ _ _
        refine wpAny_pure ?_
        show wpAny _ _ (ret Value.none) _ _ _
        refine wpAny_pure ⟨rfl, h', tk', i, rfl, fun b o e => kp b o (Nat.ne_of_lt (Heap.lt_size e)) (by rw [hsz]; exact Nat.ne_of_lt (Nat.lt_succ_of_lt (Heap.lt_size e))) (Heap.get?_push_of_some _ (Heap.get?_push_of_some _ e)), hs1⟩
      · cases r₂ with
        | error e => exact hr₂
        | ok fl₂ =>
          cases fl₂ with
          | ret r =>
            obtain ⟨rfl, h', tk, i, rfl, e1, e2⟩ := hr₂
            repeat (any_goals (first | assumption | wp_step))
            exact k _ _ i e1 e2
          | _ => exact hr₂.elim
    | _ => exact hr.elim
end
end
section
section
variable {w : World} {A : Around} {env : Env} {σ : Sg} {μ : Mu}
/-- set() -/
theorem ev_set0 {p pos : Pos} (hk : env.kindOf "set" = some .globalImplicit)
    (hq : ∀ env, eval (.Call (.Name "set" p) [] [] pos) env = (do callWith pos (← eval (.Name "set" p) env) [] (backTo pos (starEach [] env)) (backToKw pos (keywordEach [] env))) := by intros; rfl) : Ev w A env σ μ (.Call (.Name "set" p) [] [] pos) (.leaf (fun _ => SetP w none)) := ⟨fun g av s h tk Q E st k => by
  refine Call_ (ld_glob st hk gl_set ?_ (by decide)) (hq env)
  refine callWith_of (P := fun _ => True) rfl (keeps_machine rfl) (evalArgs_nil3 ⟨trivial, ?_⟩)
  exact PySem.call_set_0 (s := upd s h tk) fun led => k _ (h.push _) tk (Ext.push _ _) (.leaf (dom_fresh st.dom) (Heap.get?_push_size _ rfl) ⟨led, rfl⟩)⟩
/-- set([x]) -/
theorem call_setL (hh : A.handled = none) {x : Str} : CallD w A (.type "set") [.list [.str x]] (.leaf (fun _ => SetP w (some x))) := ⟨fun av s h tk vs Q E B dom a k => by
  obtain ⟨v, rfl, y⟩ := a.one
  obtain ⟨l, us, n, rfl, ho, hs⟩ := y.list
  cases hs with
  | cons hv hs => cases hs; cases hv with
    | str _ t =>
      refine set_of_one (s := upd s h tk) hh ho fun h' tk' i kp hset => ?_
      have e : Ext h h' := kp
      refine k _ h' tk' e (.leaf (fun q => ?_) hset ⟨t, i, rfl⟩)
      exact dom_fresh dom q⟩

/-! the table of names -/
theorem valueAt_tab {vals : List (Str × Int × Tok)} {kvs : List (Str × Int)} (e : (vals.map fun v => (v.1, v.2.1)) = kvs) (k : Str) : match kvs.lookup k with | some i => ∃ t, valueAt (intPairs vals) k = some (.int i t) | none => valueAt (intPairs vals) k = none := by
  subst e
  induction vals with
  | nil => simp [valueAt, intPairs]
  | cons v vs ih =>
    obtain ⟨y, i, t⟩ := v
    simp only [List.map_cons]
    by_cases q : k = y
    · subst q
      rw [lookup_cons_eq]
      exact ⟨t, by simp [valueAt, intPairs]⟩
    · rw [lookup_cons_ne q]
      have e : valueAt (intPairs ((y, i, t) :: vs)) k = valueAt (intPairs vs) k := by
        simp only [valueAt, intPairs, List.map_cons, List.find?_cons]
        rw [show decide (y = k) = false from decide_eq_false fun e => q e.symm]
      rw [e]; exact ih
/-- a place of the frame's own table, as a value -/
def tabIn (kvs : List (Str × Int)) (x : Str) : Bool := (kvs.lookup x).isSome
theorem in_tab {di : Addr} {kvs : List (Str × Int)} {x : Str} {t : Tok} {av : AV} {s : Shared} {h : Heap} {tk : Nat} {Q : Value → Shared → Prop} {E : Value → Shared → Prop} (hd : (MO.tab w kvs).holds av h di) (k : Q (.bool (tabIn kvs x)) (upd s h (tk + 1))) : wpAny (model P0 w) A (compareOp .In (.str x t) (.ref di)) Q E (upd s h tk) := by
  obtain ⟨hs, vals, e, hm⟩ := hd
  refine wpAny_in_of (s := upd s h tk) (knd := strKind P0 w) (k := x) (isStr_self x t) hs hm.mapOf ?_
  have := valueAt_tab e x
  have e2 : (valueAt (intPairs vals) x).isSome = tabIn kvs x := by
    unfold tabIn
    cases q : kvs.lookup x with
    | none => rw [q] at this; rw [this]; rfl
    | some i => rw [q] at this; obtain ⟨t, this⟩ := this; rw [this]; rfl
  rw [e2]; exact k
theorem get_tab {di : Addr} {kvs : List (Str × Int)} {x : Str} {i : Int} {t : Tok} {av : AV} {s : Shared} {h : Heap} {tk : Nat} {Q : Value → Shared → Prop} {E : Value → Shared → Prop} (hd : (MO.tab w kvs).holds av h di) (hl : kvs.lookup x = some i) (k : ∀ t', Q (.int i t') (upd s h (tk + 1))) : wpAny (model P0 w) A (getItem (.ref di) (.str x t)) Q E (upd s h tk) := by
  obtain ⟨hs, vals, e, hm⟩ := hd
  have := valueAt_tab e x
  rw [hl] at this
  obtain ⟨t', this⟩ := this
  exact wpAny_getItem_of (s := upd s h tk) (knd := strKind P0 w) (k := x) (isStr_self x t) hm.mapOf this (k t')
theorem set_tab {di : Addr} {kvs : List (Str × Int)} {x : Str} {i : Int} {t t' : Tok} {av : AV} {s : Shared} {h : Heap} {tk : Nat} {Q : Unit → Shared → Prop} {E : Value → Shared → Prop} (hd : (MO.tab w kvs).holds av h di) (hl : kvs.lookup x = none) (hz : kvs.length ≤ 1000)
    (k : ∀ h', Heap.SameBut di h h' → (MO.tab w (kvs ++ [(x, i)])).holds av h' di → Q () (upd s h' (tk + 1))) : wpAny (model P0 w) A (setItem (.ref di) (.str x t) (.int i t')) Q E (upd s h tk) := by
  obtain ⟨hs, vals, e, hm⟩ := hd
  have hv := valueAt_tab e x
  rw [hl] at hv
  have hlen : (intPairs vals).length ≤ sizeLine := by
    have := congrArg List.length e; rw [List.length_map] at this
    simp [intPairs, this, sizeLine_eq]; omega
  refine wpAny_setItem_pairs (s := upd s h tk) (knd := strKind P0 w) (k := x) (hsz := hlen) (isStr_self x t) hm fun h' hm' sb => k h' sb ⟨hs, vals ++ [(x, i, t')], by rw [List.map_append, e]; rfl, ?_⟩
  have e2 : stored (intPairs vals) x (.int i t') = intPairs (vals ++ [(x, i, t')]) := by
    unfold stored
    have hn : ((intPairs vals).any fun kv => decide (kv.1 = x)) = false := by
      rw [List.any_eq_false]
      intro kv hkv hd
      have : (valueAt (intPairs vals) x).isSome = true := by
        unfold valueAt
        rw [Option.isSome_map, List.find?_isSome]
        exact ⟨kv, hkv, hd⟩
      rw [hv] at this; cases this
    rw [hn]; simp [intPairs]
  rw [← e2]; exact hm'

variable {di : Addr} {kvs : List (Str × Int)}
theorem tr_inTab {l r : Expr} {p : Pos} {x : Str} (hl : Ev w A env σ μ l (.str x)) (hr : Ev w A env σ μ r (.ptr di)) (hm : μ.lookup di = some (.tab w kvs)) (hb : behindInMarks .In r = false := by with_unfolding_all rfl) : Tr w A env σ μ (.Compare l [.In] [r] p) (tabIn kvs x) := ⟨fun g av s h tk Q E st k =>
  wpAny_isTrue_Compare1 (hl.run g av s h tk _ E st fun u h1 tk1 e1 a1 => hr.run g av s h1 tk1 _ E (st.grow e1) fun v h2 tk2 e2 a2 => by
    cases a1; cases a2
    exact in_tab ((st.grow (e1.trans e2)).mu di _ hm).1 (wpAny_truthy_bool (k h2 (tk2 + 1) (e1.trans e2)))) hb⟩
theorem ev_subTab {o i : Expr} {p : Pos} {x : Str} {n : Int} (ho : Ev w A env σ μ o (.ptr di)) (hi : Ev w A env σ μ i (.str x)) (hm : μ.lookup di = some (.tab w kvs)) (hl : kvs.lookup x = some n)
    (hs : ∀ u v, ∃ ops, subscripted i false u v = operate ops (getItem u v) := by intros; exact ⟨_, rfl⟩) : Ev w A env σ μ (.Subscript o i p) (.int n) := ⟨fun g av s h tk Q E st k => by
  refine Subscript_ (ho.run g av s h tk _ E st fun u h1 tk1 e1 a1 => hi.run g av s h1 tk1 _ E (st.grow e1) fun v h2 tk2 e2 a2 => ?_)
  cases a1; cases a2
  have hd := ((st.grow (e1.trans e2)).mu di _ hm).1
  obtain ⟨ops, e⟩ := hs (.ref di) (.str x _)
  obtain ⟨_, vals, _, hm'⟩ := id hd
  exact tail_any (s := upd s h2 tk2) hm'.mapOf.typeIs slot_dict_getitem.lookup (get_tab hd hl fun t' => k _ h2 (tk2 + 1) (e1.trans e2) (.int _ _)) e⟩
variable {g : Heap} {av₀ : AV} {s : Shared} {Q : Flow → Shared → Prop} {rest : List Stmt}
theorem go_setTab {o i e : Expr} {spos pos : Pos} {x : Str} {n : Int} (he : Ev w A env σ μ e (.int n)) (ho : Ev w A env σ μ o (.ptr di)) (hi : Ev w A env σ μ i (.str x)) (hm : μ.lookup di = some (.tab w kvs)) (hl : kvs.lookup x = none) (hz : kvs.length ≤ 1000)
    (k : Go w A env g av₀ s Q σ ((di, .tab w (kvs ++ [(x, n)])) :: μ) rest)
    (hs : swapsWith e (some (.Subscript o i spos)) pos.line env = pure false := by rfl) : Go w A env g av₀ s Q σ μ (.Assign [.Subscript o i spos] e pos :: rest) := ⟨fun av h tk up om st => by
  refine wpAny_execs_cons (wpAny_Assign_Subscript ?_ hs)
  refine he.run g av s h tk _ _ st fun v h1 tk1 e1 a1 => ho.run g av s h1 tk1 _ _ (st.grow e1) fun u h2 tk2 e2 a2 => hi.run g av s h2 tk2 _ _ ((st.grow e1).grow e2) fun iv h3 tk3 e3 a3 => ?_
  cases a1; cases a2; cases a3
  have st3 := ((st.grow e1).grow e2).grow e3
  refine set_tab (st3.mu di _ hm).1 hl hz fun h' sb hd => ?_
  refine k.run av h' (tk3 + 1) up (fun a mo q => ?_) (st3.putMu hm sb hd mu_put)
  rcases mu_put a mo q with ⟨r, _⟩ | ⟨_, r⟩
  · exact om a _ (r ▸ hm)
  · exact om a _ r⟩
end
end
section
section
variable {w : World} {A : Around} {env : Env} {σ : Sg} {μ : Mu}
theorem S.ownM {g : Heap} {av : AV} {h h' : Heap} {l : Addr} {mo : MO} (x : S w g env av h σ μ) (e : Ext h h') (hn : h.get? l = none) (hv : mo.holds (fun b => av b ∨ b = l) h' l) : S w g env (fun b => av b ∨ b = l) h' σ ((l, mo) :: μ) := by
  have y : S w g env (fun b => av b ∨ b = l) h' σ μ := x.live e (fun a q => .inl q) (fun a q => q.imp id fun (q : a = l) => q ▸ hn) (fun a q => by
    rcases q with q | q
    · obtain ⟨o, ho⟩ := x.dom a q; exact ⟨o, e _ _ ho⟩
    · subst q; exact MO.holds_some hv)
  have nav : ¬ av l := fun q => by obtain ⟨o, ho⟩ := x.dom l q; rw [hn] at ho; cases ho
  exact { y with
    mu := fun a mo' q => by
      rw [lookupM_cons] at q
      split at q
      · rename_i r; cases q; subst r
        refine ⟨hv, .inr rfl, ?_, fun r => nav (r ▸ x.ownL.1), fun z c q r => nav (r ▸ (x.ownC z c q).1)⟩
        cases q : g.get? a with
        | none => rfl
        | some o => rw [x.ext _ _ q] at hn; cases hn
      · exact y.mu a mo' q }
theorem GB.big {h : Heap} (B : GB w h) : 203 < h.objs.size := by
  have : ∃ o, (KK w).lookup 203 = some o := ⟨_, rfl⟩
  obtain ⟨o, q⟩ := this
  exact Heap.lt_size (B.K 203 o q)
variable {g : Heap} {av₀ : AV} {s : Shared} {Q : Flow → Shared → Prop} {rest : List Stmt}
/-- an expression that makes a new table of one name -/
structure EvTab (w : World) (A : Around) (env : Env) (e : Expr) (k : Str) (n : Int) : Prop where
  run : ∀ (s : Shared) (h : Heap) (tk : Nat) (Q : Value → Shared → Prop) (E : Value → Shared → Prop), (∀ h' tk' t, Ext h h' → h'.DictOf (strKind P0 w) h.objs.size (intPairs [(k, n, t)]) → Q (.ref h.objs.size) (upd s h' tk')) → wpAny (model P0 w) A (eval e env) Q E (upd s h tk)
theorem dict_one {k : Str} {n : Int} {c1 c2 : Nat} {kp vp dpos : Pos} : EvTab w A env (.Dict [some (.Constant (.str k) c1 kp)] [.Constant (.int n) c2 vp] dpos) k n := by
  refine ⟨fun s h tk Q E go => ?_⟩
  refine wpAny_Dict_walk (s := upd s h tk) (knd := strKind P0 w) rfl rfl (by simp) (by simp) ?_
  refine pairTrees_cons_walk ?_
  refine wpAny_Constant_str ?_
  refine wpAny_Constant_int ?_
  refine pairTrees_nil_walk ?_
  refine ⟨[(k, .int n (tk + 1))], ⟨isStr_self k tk, rfl, trivial⟩, ?_, fun h' hdict sb => ?_⟩
  · exact Heap.DictOf.new (knd := strKind P0 w) h
  · exact go h' _ (tk + 1) (fun b o q => (sb.2 b (Nat.ne_of_lt (Heap.lt_size q))).trans (Heap.get?_push_of_some _ q)) hdict
/-- self.x = {"k": n}: a table of the frame's own -/
theorem go_setattr_tab {nm name : Str} {p pn pos : Pos} {C x dx : Addr} {fs : List (Str × D)} {k : Str} {n : Int} {e : Expr} (he : EvTab w A env e k n) (hn : σ.lookup nm = some (.m x)) (hx : μ.lookup x = some (.inst C dx)) (hdx : μ.lookup dx = some (.dict (PyData.keyHash w.params) fs)) (hz : fs.length ≤ 900)
    (go : ∀ di, (∀ mo, μ.lookup di ≠ some mo) → Go w A env g av₀ s Q σ ((dx, .dict (PyData.keyHash w.params) (setF name (.ptr di) fs)) :: (di, .tab w [(k, n)]) :: μ) rest)
    (h1 : findIn (KK w) (.ref C) "__setattr__" = some (some (.builtin "object.__setattr__")) := by rfl) (h2 : plainOver (KK w) C = true := by rfl) (h3 : takerIn (KK w) C name = some none := by rfl) (h4 : hasDictIn (KK w) C = true := by rfl)
    (hd : (nm == ("__debug__" : Str)) = false := by decide) (hs : swapsWith e (some (.Attribute (.Name nm pn) name p)) pos.line env = pure false := by rfl) : Go w A env g av₀ s Q σ μ (.Assign [.Attribute (.Name nm pn) name p] e pos :: rest) := ⟨fun av h tk up om st => by
  refine wpAny_execs_cons (plainObj_wpAny_Assign_Attribute ?_ hs)
  have fresh := not_here h
  refine he.run s h tk _ _ fun h' tk' t ex hdict => ?_
  · 
    have big := (st.base.ext st.ext).big
    have hold : (MO.tab w [(k, n)]).holds (fun b => av b ∨ b = h.objs.size) h' h.objs.size := ⟨by
      have : h.objs.size ≠ sysModules := Nat.ne_of_gt (Nat.lt_trans (by decide) big)
      simpa using this, [(k, n, t)], rfl, hdict⟩
    have st1 := st.ownM ex fresh hold
    have nav : ∀ {a}, av a → a ≠ h.objs.size := fun {a} q r => by obtain ⟨o, ho⟩ := st.dom a q; rw [r, fresh] at ho; cases ho
    refine wpAny_Name (ld_name (s := s) st1 hn fun u hu => ?_) hd
    subst hu
    have hx1 : List.lookup x ((h.objs.size, MO.tab w [(k, n)]) :: μ) = some (.inst C dx) := mu_skip (nav (st.mu x _ hx).2.1) hx
    have hdx1 : List.lookup dx ((h.objs.size, MO.tab w [(k, n)]) :: μ) = some (.dict (PyData.keyHash w.params) fs) := mu_skip (nav (st.mu dx _ hdx).2.1) hdx
    obtain ⟨hxo, ax, _⟩ := st1.mu x _ hx1
    obtain ⟨⟨es, m, hdo, hfs, hk⟩, adx, _⟩ := st1.mu dx _ hdx1
    have hlen := hfs.length
    refine setattr_raw (s := upd s h' _) (st1.base.ext st1.ext).K hxo hdo h1 h2 h3 h4 (hfs.isSome name) (by omega) fun t n' h2 sb2 ho => ?_
    have off : ∀ b o, ¬ (av b ∨ b = h.objs.size) → h'.get? b = some o → ¬ (av b ∨ b = h.objs.size) ∧ h2.get? b = some o := fun b o nb q => ⟨nb, (sb2.2 b fun r => nb (r ▸ adx)).trans q⟩
    refine (go h.objs.size fun mo q => nav (st.mu _ mo q).2.1 rfl).run _ h2 _ (fun a q => .inl (up a q)) (fun a mo q => ?_) (st1.putMu (m1 := .dict (PyData.keyHash w.params) (setF name (.ptr h.objs.size) fs)) hdx1 sb2 ⟨_, n', ho, (Fds.put (.ptr _) hfs).mono off, hk.put⟩ mu_put)
    have base : ∀ a mo, List.lookup a ((h.objs.size, MO.tab w [(k, n)]) :: μ) = some mo → ¬ av₀ a := fun a mo q => by
      rw [lookupM_cons] at q
      split at q
      · rename_i r; exact fun t => nav (up a t) r
      · exact om a mo q
    rcases mu_put a mo q with ⟨r, _⟩ | ⟨_, r⟩
    · exact base a _ (r ▸ hdx1)
    · exact base a _ r⟩
end
end
section
/-- a class of the text, called: an object and a table of its own -/
structure FnI (w : World) (f : Addr) (n : Nat) (ds : List D) (C : Addr) (fs : Addr → List (Str × D)) (kvs : List (Str × Int)) : Prop where
  run : ∀ (A : Around) (av : AV) (s : Shared) (h : Heap) (tk : Nat) (vs : List Value) (Q : Value → Shared → Prop) (E : Value → Shared → Prop), AOk A n → GB w h → (∀ a, av a → ∃ o, h.get? a = some o) → Ats av h vs ds →
    (∀ r di h' tk', Ext h h' → h.get? di = none → (MO.tab w kvs).holds (fun b => av b ∨ b = di) h' di → At (fun b => av b ∨ b = di) h' r (.inst C (fs di)) → Q r (upd s h' tk')) → wpAny (model P0 w) A (call (.ref f) vs) Q E (upd s h tk)
def InitQT (w : World) (env : Env) (g : Heap) (av : AV) (s : Shared) (C x dx : Addr) (fs : Addr → List (Str × D)) (kvs : List (Str × Int)) (Q : Flow → Shared → Prop) : Prop :=
  ∀ σ' μ' av' h' tk' di, (∀ a, av a → av' a) → List.lookup x μ' = some (.inst C dx) → List.lookup dx μ' = some (.dict (PyData.keyHash w.params) (fs di)) → List.lookup di μ' = some (.tab w kvs) → di ≠ x → di ≠ dx → S w g env av' h' σ' μ' → Q .next (upd s h' tk')
theorem InitQT.go {w : World} {A : Around} {env : Env} {g : Heap} {av : AV} {s : Shared} {C x dx di : Addr} {fs : Addr → List (Str × D)} {kvs : List (Str × Int)} {Q : Flow → Shared → Prop} {σ : Sg} {μ : Mu} (q : InitQT w env g av s C x dx fs kvs Q) (hx : List.lookup x μ = some (.inst C dx)) (hdx : List.lookup dx μ = some (.dict (PyData.keyHash w.params) (fs di))) (hdi : List.lookup di μ = some (.tab w kvs)) (n1 : di ≠ x) (n2 : di ≠ dx) : Go w A env g av s Q σ μ [] :=
  go_nil fun av' h' tk' up om st => q σ μ av' h' tk' di up hx hdx hdi n1 n2 st
theorem fn_newT {w : World} {C f : Addr} {n : Nat} {fd : FuncData} {oc : Value} {od : Option Addr} {osl : Array (Option Value)} {body : List Stmt} {self : Str} {ps : List Str} {ds dex : List D} {ex : List Value} {fs : Addr → List (Str × D)} {kvs : List (Str × Int)}
    (hex : ∀ av h, Ats av h ex dex) (hlen : ps.length = (ds ++ dex).length) (nd : (self :: ps).Nodup) (hkind : ∀ x ∈ self :: ps, KOk fd x)
    (hb : ∀ x vs, vs.length = ds.length → ∀ (A : Around) (s : Shared) (Q : List (Str × Value) → Shared → Prop) (E : Value → Shared → Prop), (KK w).In s.heap → Q ((self, .ref x) :: ps.zip (vs ++ ex)) s → wpAny (model P0 w) A (bindArgs fd ⟨.ref x :: vs, []⟩) Q E s)
    (walk : ∀ A L g av s x dx Q, AOk A n → x ≠ dx → InitQT w (callEnvC fd L f) g av s C x dx fs kvs Q → Go w A (callEnvC fd L f) g av s Q ((self, .m x) :: sg ps (ds ++ dex)) [(x, .inst C dx), (dx, .dict (PyData.keyHash w.params) [])] body)
    (hm : makesIn (KK w) C = true := by rfl) (hi : findIn (KK w) (.ref C) "__init__" = some (some (.ref f)) := by rfl) (hf : typeIn (KK w) (.ref f) = some (.type "function") := by rfl)
    (hK : (Mine.hd.heap_1 w.params).lookup f = some ⟨oc, od, .func fd, osl⟩ := by rfl) (hcd : codeIn (Mine.hd.heap_1 w.params) fd.code fd.qualname = true := by rfl) (hbody : fd.body = .stmts body := by rfl) (hclo : fd.closure = [] := by rfl)
    (hgl : fd.globals = mainGlobals := by rfl) (hbl : fd.builtins = builtinsNs := by rfl)
    (hco : fd.scope.isCoroutine = false := by rfl) (hgen : fd.scope.isGenerator = false := by rfl) (hk : fd.scope.kind = .function := by rfl) : FnI w C (n + 2) ds C fs kvs := by
  refine ⟨fun A av s h tk vs Q E hA B dom ats k => wpAny_call ?_⟩
  refine make_core (A := A) (h := h) (rest := vs) (kw := []) (makes_of B.K hm) (looks_findIn B.K hi) (fun self => bind_fn B.K self hf) (.inl rfl) ?_
  have nx : h.get? (h.objs.size + 1) = none := by
    cases q : h.get? (h.objs.size + 1) with
    | none => rfl
    | some o => exact absurd (Heap.lt_size q) (Nat.not_lt.mpr (Nat.le_succ _))
  have nd' : h.get? h.objs.size = none := not_here h
  have e2 : Ext h ((h.push emptyDict).push (instObj C h.objs.size)) := (Ext.push _ _).trans (Ext.push _ _)
  have gx : ((h.push emptyDict).push (instObj C h.objs.size)).get? (h.objs.size + 1) = some (instObj C h.objs.size) := by
    have := Heap.get?_push_size (h.push emptyDict) (o := instObj C h.objs.size) rfl
    rw [Heap.size_push] at this; exact this
  have gd : ((h.push emptyDict).push (instObj C h.objs.size)).get? h.objs.size = some (dctO [] 0) := Heap.get?_push_of_some _ (Heap.get?_push_size h (o := emptyDict) rfl)
  have hne : h.objs.size + 1 ≠ h.objs.size := Nat.succ_ne_self _
  generalize hH : (h.push emptyDict).push (instObj C h.objs.size) = H at e2 gx gd ⊢
  generalize hX : h.objs.size + 1 = X at nx gx hne ⊢
  generalize hDX : h.objs.size = DX at nd' gx gd hne ⊢
  show codeAny (model P0 w) (A.under (.builtin "type.__call__" ⟨.ref C :: vs, []⟩)) (.call (.ref f) ⟨.ref X :: vs, []⟩) _ (upd s H tk)
  have nav : ∀ {a}, h.get? a = none → ¬ av a := fun q r => by obtain ⟨o, ho⟩ := dom _ r; rw [ho] at q; cases q
  have more : ∀ a o, ¬ av a → h.get? a = some o → ¬ (av a ∨ a = X ∨ a = DX) ∧ H.get? a = some o := fun a o na q => ⟨fun r => r.elim na fun r => r.elim (fun r => by rw [r, nx] at q; cases q) (fun r => by rw [r, nd'] at q; cases q), e2 _ _ q⟩
  have full : Ats (fun a => av a ∨ a = X ∨ a = DX) H (vs ++ ex) (ds ++ dex) := (ats.mono more).append (hex _ _)
  have hvl := ats.length
  refine enterC (hA.tcall C vs []) (B.ext e2) B e2 (Ext.refl H) (h := H) (tk := tk) (binds := (self, .ref X) :: ps.zip (vs ++ ex)) (σ := (self, .m X) :: sg ps (ds ++ dex)) (μ := [(X, .inst C DX), (DX, .dict (PyData.keyHash w.params) [])]) (av := fun a => av a ∨ a = X ∨ a = DX)
    (fun Q E q => hb X vs hvl _ _ Q E (B.ext e2).K q) ?_ (fun x hx => ?_) (fun x sv q => ?_) (fun a q => ?_) (fun a mo q => ?_) (fun L av' h₁ tk₁ up lim st => ?_) hK hcd hbody hclo hgl hbl hco hgen hk
  · simp only [List.map_cons]
    rw [List.map_fst_zip (by have := full.length; omega)]; exact nd
  · rcases List.mem_cons.mp hx with rfl | hx
    · exact hkind self (.head _)
    · exact hkind _ (.tail _ (List.of_mem_zip hx).1)
  · by_cases e : x = self
    · subst e; rw [lookup_cons_eq] at q; cases q; exact ⟨_, .head _, rfl⟩
    · rw [lookup_cons_ne e] at q
      obtain ⟨v, a, b⟩ := zip_get ps _ _ full x sv q
      exact ⟨v, .tail _ a, b⟩
  · rcases q with q | rfl | rfl
    · obtain ⟨o, ho⟩ := dom a q; exact ⟨o, e2 _ _ ho⟩
    · exact ⟨_, gx⟩
    · exact ⟨_, gd⟩
  · rw [lookupM_cons] at q
    split at q
    · rename_i r; cases q; subst r; exact ⟨gx, .inr (.inl rfl), nx⟩
    · rw [lookupM_cons] at q
      split at q
      · rename_i r; cases q; subst r; exact ⟨⟨[], 0, gd, .nil, fun _ h => by cases h⟩, .inr (.inr rfl), nd'⟩
      · simp at q
  · refine (walk _ L h (fun a => av a) s X DX _ ((hA.tcall C vs []).deeper _) hne ?_).run av' h₁ tk₁ (fun a q => up a (.inl q)) (fun a mo q => ?_) st
    · intro σ' μ' av2 h' tk' di up' hx hdx hdi n1 n2 st'
      obtain ⟨hxo, _⟩ := st'.mu X _ hx
      obtain ⟨⟨es, m, hdo, hfs, _⟩, _⟩ := st'.mu DX _ hdx
      obtain ⟨ht, adi, gdi, _⟩ := st'.mu di _ hdi
      exact ⟨rfl, k _ di h' tk' st'.ext gdi ht (.inst (fun q => q.elim (nav nx) fun e => n1 e.symm) (fun q => q.elim (nav nd') fun e => n2 e.symm) hxo hdo (hfs.mono fun a _ na q => ⟨fun r => na (r.elim (up' a) fun e => e ▸ adi), q⟩))⟩
    · rw [lookupM_cons] at q
      split at q
      · rename_i r; subst r; exact nav nx
      · rw [lookupM_cons] at q
        split at q
        · rename_i r; subst r; exact nav nd'
        · simp at q
end
section
open Builtin Builtin.Str in
/-- x[l:u] -/
def sliceT (x : Str) (l u : Option Int) : Str := if (strSliceIndices l u 1 x.length).length == x.length then x else ⟨((strSliceIndices l u 1 x.length).filterMap (x.cps[·]?)).toArray⟩
section
variable {w : World} {A : Around} {env : Env} {σ : Sg} {μ : Mu}
theorem ty_str {x : Str} (hz : x.length ≤ 1000000) : TyD w A (.str x) ((x.length : Int) != 0) := ⟨fun av s h tk v Q E a k => by
  obtain ⟨t, rfl⟩ := a.str
  exact PySem.P.truthy_str (s := upd s h tk) (by omega) (k h (tk + 1 + 1) (Ext.refl h))⟩
theorem sub_slice_any {E : Value → Shared → Prop} {s : Shared} {value : Expr} {lower upper : Option Expr} {p pos : Pos} {T id : String} {Q : Value → Shared → Prop}
    (hl : typeLookup (.type T) "__getitem__" = pure (some (.builtin id)))
    (h : wpAny (model P0 w) A (eval value env) (fun o s₁ => wpAny (model P0 w) A (eval (.Slice lower upper none p) env) (fun i s₂ => s₂.TypeIs o T ∧ wpAny (model P0 w) A (getItem o i) Q E s₂) E s₁) E s) :
    wpAny (model P0 w) A (eval (.Subscript value (.Slice lower upper none p) pos) env) Q E s := by
  rw [eval_Subscript]
  refine wpAny_bind (wpAny_mono h (fun o s₁ h₁ => wpAny_bind (wpAny_holding (wpAny_mono h₁ (fun i s₂ h₂ => wpAny_bind (wpAny_standAt ?_)) fun _ _ x => x))) fun _ _ x => x)
  have fin : wpAny (model P0 w) A (operate [i, o] (getItem o i)) (fun r s₃ => wpAny (model P0 w) A (letTemporaryGo value o r >>= fun _ => pure r) Q E s₃) E s₂ :=
    wpAny_operating (wpAny_mono h₂.2 (fun r s₃ h₃ => wpAny_bind (wpAny_letTemporaryGo (wpAny_pure h₃))) fun _ _ x => x)
  refine wpAny_bind ?_
  rw [getitemInPython_of_ne h₂.1.not_modules]
  refine wpAny_bind (wpAny_specialOf h₂.1 hl ?_)
  first
    | exact wpAny_pure (wpAny_bind fin)
    | exact wpAny_bind (wpAny_pure (wpAny_bind fin))
    | exact wpAny_bind fin
theorem ev_sliceS {o : Expr} {lo hi : Option Expr} {p pos : Pos} {x : Str} {l u : Option Int} (ho : EvT w A env σ μ o (.str x)) (hl : PartE w A env σ μ lo l) (hu : PartE w A env σ μ hi u) (hz : (sliceT x l u).length ≤ 1000000) : Ev w A env σ μ (.Subscript o (.Slice lo hi none p) pos) (.str (sliceT x l u)) := ⟨fun g av s h tk Q E st k => by
  refine sub_slice_any (T := "str") F.slot_str_getitem.lookup (ho.run g av s h tk _ E st fun v h1 tk1 e1 a1 => wpAny_Slice (part_ev hl (st.grow e1) fun vl h2 tk2 e2 p2 q2 => part_ev hu ((st.grow e1).grow e2) fun vu h3 tk3 e3 p3 q3 => ?_))
  obtain ⟨t, rfl⟩ := a1.str
  obtain ⟨ol, rfl, rfl⟩ := q2
  obtain ⟨ou, rfl, rfl⟩ := q3
  have ex := e1.trans (e2.trans e3)
  rw [evalPart_none]
  refine wpAny_pure ⟨typeIs_str _ x t, wpAny_getItem_str_slice (l := ol) (u := ou) (st := none) ⟨_, Heap.get?_push_size _ rfl, rfl, rfl⟩ rfl ?_⟩
  unfold sliceMade
  have e : sliceT x (ol.map (·.1)) (ou.map (·.1)) = if (((none : Option (Int × Tok)).map (·.1)).getD 1 == 1 && (slicePicked x ol ou none).length == x.length) = true then x else ⟨((slicePicked x ol ou none).filterMap (x.cps[·]?)).toArray⟩ := rfl
  rw [e] at k
  split
  · rename_i hc
    rw [if_pos hc] at k
    exact k _ (h3.push _) tk3 (ex.trans (Ext.push _ _)) (.str _ _)
  · rename_i hc
    rw [if_neg hc] at k
    refine ⟨?_, k _ (h3.push _) (tk3 + 1) (ex.trans (Ext.push _ _)) (.str _ _)⟩
    rw [e, if_neg hc] at hz
    rw [sizeLine_eq]; omega⟩
open Builtin Builtin.Str Builtin.Int in
/-- x.split(y) -/
def splitT (x y : Str) : List Str := partsBetween x (occurrences x y 0 x.length (x.length + 1)) y.length
open Builtin Builtin.Str Builtin.Int in
def splitOk (x y : Str) : Bool := !(decide (x.length < y.length) || decide (Builtin.Str.strKind x < Builtin.Str.strKind y)) && !(y.length == 0) && !(occurrences x y 0 x.length (x.length + 1)).isEmpty && decide (x.length ≤ 1000000) && decide ((splitT x y).length ≤ 1000000)
theorem strsFrom_at {av : AV} {h : Heap} : ∀ (xs : List Str) (tk : Nat), Ats av h (strsFrom tk xs) (xs.map .str)
  | [], _ => .nil
  | x :: xs, tk => .cons (.str _ _) (strsFrom_at xs (tk + 1))
theorem call_split {x y : Str} (hok : splitOk x y = true) : CallD w A (.builtin "str.split") [.str x, .str y] (.list ((splitT x y).map .str)) := ⟨fun av s h tk vs Q E B dom a k => by
  obtain ⟨v, u, rfl, p, q⟩ := a.two
  obtain ⟨t, rfl⟩ := p.str; obtain ⟨t', rfl⟩ := q.str
  unfold splitOk at hok
  simp only [Bool.and_eq_true, Bool.not_eq_true', decide_eq_true_eq] at hok
  obtain ⟨⟨⟨⟨h1, h2⟩, h3⟩, h4⟩, h5⟩ := hok
  refine call_meets (s := upd s h tk) F.slot_str_split (typeIs_str _ x t) F.entry_str_split (F.args_str_split_2 _ _) (meets_str_split_sep x y t t' h1 h2 h3 (by rw [sizeLine_eq]; omega) (by rw [sizeLine_eq]; exact Nat.le_trans h5 (by decide))) ?_
  exact k _ (h.push _) _ (Ext.push _ _) (.list (vs := strsFrom tk (splitT x y)) (n := 0) (dom_fresh dom) (Heap.get?_push_size _ rfl) (strsFrom_at _ _))⟩
variable {g : Heap} {av₀ : AV} {s : Shared} {Q : Flow → Shared → Prop} {rest : List Stmt}
theorem go_pop {x : Str} {px apos pos epos : Pos} {l : Addr} {ds : List D} (hl : σ.lookup x = some (.m l)) (hm : μ.lookup l = some (.list ds)) {x0 : Str} (hx0 : ds[ds.length - 1]? = some (.str x0)) (hz : ds.length ≤ 1000000)
    (k : Go w A env g av₀ s Q σ ((l, .list ds.dropLast) :: μ) rest)
    (hd : (x == ("__debug__" : Str)) = false := by decide) (hl' : (apos.endLine == pos.line) = true := by decide) (hi : interactive env = false := by rfl) :
    Go w A env g av₀ s Q σ μ (.Expr (.Call (.Attribute (.Name x px) "pop" apos) [] [] pos) epos :: rest) := ⟨fun av h tk up om st => by
  refine wpAny_execs_cons (wpAny_Expr ?_ hi rfl)
  obtain ⟨pl, he'⟩ := meth_eq (env := env) (o := .Name x px) (name := "pop") (apos := apos) (pos := pos) (args := []) rfl hl' rfl (by simp)
  refine methodCall_KW (kws := []) (wpAny_Name (ld_name st hl fun v hv => ?_) hd) he'
  subst hv
  obtain ⟨⟨vs, n, ho, hs⟩, al, _⟩ := st.mu l _ hm
  refine getMethod_builtin (s := upd s h tk) ⟨_, ho, rfl⟩ F.plainAttrs_list F.slot_list_pop F.type_list_pop (fun a e => by cases e; exact ⟨_, ho, rfl⟩) ?_
  have hlen := hs.length
  obtain ⟨y, hy, ay⟩ := hs.get hx0
  rw [← hlen] at hy
  refine PySem.P.pop_list (s := upd s h tk) (items := vs.toArray) (n := n) (y := y) ho (by simpa using hy) ?_ (by simp [hlen, sizeLine_eq]; omega)
  cases ay
  have e : vs.toArray.eraseIdxIfInBounds (vs.toArray.size - 1) = vs.dropLast.toArray := by
    rw [List.eraseIdxIfInBounds_toArray, List.size_toArray, List.eraseIdx_length_sub_one]
  obtain ⟨n', g2⟩ : ∃ n', Obj.mapSeq (fun xs => xs.eraseIdxIfInBounds (vs.toArray.size - 1)) (lstO vs n) = lstO vs.dropLast n' := by
    refine ⟨if ((vs.toArray.eraseIdxIfInBounds (vs.toArray.size - 1)).size == vs.toArray.size) = true then n else n + 1, ?_⟩
    show ({ cls := .type "list", data := .seq (vs.toArray.eraseIdxIfInBounds (vs.toArray.size - 1)) _ } : Obj) = _
    generalize (if ((vs.toArray.eraseIdxIfInBounds (vs.toArray.size - 1)).size == vs.toArray.size) = true then n else n + 1) = m
    rw [e]
  have g1 : (h.update l (Obj.mapSeq fun xs => xs.eraseIdxIfInBounds (vs.toArray.size - 1))).get? l = some (lstO vs.dropLast n') := (Heap.get?_update_self _ ho rfl).trans (congrArg some g2)
  refine k.run av _ tk up (fun a mo q => ?_) (st.setMu (vs' := vs.dropLast) (n' := n') hm (Heap.SameBut.update ..) g1 ?_ mu_put)
  · rcases mu_put a mo q with ⟨r, _⟩ | ⟨_, r⟩
    · exact om a _ (r ▸ hm)
    · exact om a _ r
  · rw [List.dropLast_eq_take, List.dropLast_eq_take, hlen]; exact hs.take _⟩
end
end
section

abbrev dLI (xs : List Int) : D := .list (xs.map .int)
abbrev dLS (xs : List Str) : D := .list (xs.map .str)

/-- «' ' * run + '\t'» of each run, joined -/
def leadL (ns : List Int) : List Str := ns.map fun n => repS " " n ++ "\t"
def leadS (ns : List Int) : Str := Txt.join "" (leadL ns)

theorem sum_le_mul : ∀ (l : List Nat) (k : Nat), (∀ x ∈ l, x ≤ k) → l.sum ≤ l.length * k
  | [], k, _ => by simp
  | x :: l, k, h => by
    have := sum_le_mul l k fun y hy => h y (.tail _ hy)
    have := h x (.head _)
    simp only [List.sum_cons, List.length_cons, Nat.add_mul, Nat.one_mul]; omega
theorem joinOk_bound {sep : Str} {ts : List Str} (n k m : Nat) (h1 : ts.length ≤ n) (h2 : ∀ t ∈ ts, t.length ≤ k) (h3 : sep.length ≤ m) (h4 : n * (k + m) ≤ 16777216) : JoinOk sep ts = true := by
  refine joinOk_of ?_
  have e1 : (ts.map (·.length)).sum ≤ ts.length * k := by
    have := sum_le_mul (ts.map (·.length)) k (fun x hx => by obtain ⟨t, ht, rfl⟩ := List.mem_map.mp hx; exact h2 t ht)
    simpa using this
  have e2 : ts.length * sep.length ≤ ts.length * m := Nat.mul_le_mul_left _ h3
  have e3 : ts.length * (k + m) ≤ n * (k + m) := Nat.mul_le_mul_right _ h1
  rw [Nat.mul_add] at e3
  omega
theorem app_length (a b : Str) : (a ++ b).length = a.length + b.length := by
  show (a.cps ++ b.cps).size = _; simp; rfl
theorem bindArgs1 {fd : FuncData} {n : Str} {ds : List D} (hd : ds.length = 1) (h : ∀ v, bindArgs fd ⟨[v], []⟩ = pure ([n].zip [v])) : ∀ vs : List Value, vs.length = ds.length → bindArgs fd ⟨vs, []⟩ = pure ([n].zip vs) := fun vs hv => by
  obtain ⟨v, rfl⟩ := List.length_eq_one_iff.mp (hv.trans hd); exact h v

set_option maxHeartbeats 1000000 in
theorem fn_lead {w : World} {ns : List Int} (hz : ns.length ≤ 1000) (hn : ∀ n ∈ ns, 0 ≤ n ∧ n ≤ 10000) : Fn w 188 6 [dLI ns] (.str (leadS ns)) := by
  refine fn_enter (ns := ["runs"]) (n := 5) rfl rfl rfl rfl (bindArgs1 rfl fun _ => rfl) rfl (by decide) ?_ rfl rfl rfl rfl rfl ?_
  · intro k x hx; cases hx with
    | head => left; rfl
    | tail _ h => cases h
  intro A L g av s hA
  refine go_retR ?_
  have hrep : ∀ n ∈ ns, (repS " " n).length ≤ 10000 := fun n hm => by
    have := hn n hm; rw [repS_length]; show 1 * _ ≤ _; omega
  refine ev_methB (Ev.t ev_str) gm_join (argsT_cons (Ev.t ?_) argsT_nil) (call_join (ts := leadL ns) (joinOk_bound 1000 10001 0 (by simpa [leadL] using hz) (fun t ht => ?_) (Nat.le_refl 0) (by decide)))
  · have e : dLS (leadL ns) = .list (ns.map fun n => D.str (repS " " n ++ "\t")) := by simp [leadL]
    rw [show (D.list ((leadL ns).map .str)) = dLS (leadL ns) from rfl, e]
    refine ev_comp1m (inj := .int) (σc := []) (cl := []) (src_list hA.hd (ev_name rfl)) rfl trivial trivial (by rw [sizeLine_eq]; omega) fun C n hm => ?_
    obtain ⟨h1, h2⟩ := hn n hm
    refine ⟨_, bindL_name rfl, trivial, fun μ => ?_⟩
    refine ev_bin (Ev.t (ev_bin (Ev.t ev_str) (Ev.t (ev_name rfl)) (op_repS (by omega) (by omega) ?_))) (Ev.t ev_str) (op_cat ?_)
    · rw [sizeLine_eq]; show 1 * _ ≤ _; omega
    · rw [sizeLine_eq]; have := hrep n hm; show _ + 1 ≤ _; omega
  · obtain ⟨n, hm, rfl⟩ := List.mem_map.mp ht
    rw [app_length]; have := hrep n hm; show _ + 1 ≤ _; omega

/-- every row[j] - row[i] of i < j -/
def apart (row : List Int) : List Int := (zints 0 row.length).flatMap fun i => (zints (i + 1) ((row.length : Int) - (i + 1)).toNat).map fun j => ix row j - ix row i
theorem flatMap_len {α β : Type} (f : α → List β) (k : Nat) : ∀ xs : List α, (∀ x ∈ xs, (f x).length ≤ k) → (xs.flatMap f).length ≤ xs.length * k
  | [], _ => by simp
  | x :: xs, h => by
    have := flatMap_len f k xs fun y hy => h y (.tail _ hy)
    have := h x (.head _)
    simp only [List.flatMap_cons, List.length_append, List.length_cons, Nat.add_mul, Nat.one_mul]; omega
theorem apart_len {row : List Int} (hz : row.length ≤ 1000) : (apart row).length ≤ 1000000 := by
  refine Nat.le_trans (flatMap_len _ 1000 _ fun i hi => ?_) ?_
  · rw [mem_ints] at hi; rw [List.length_map, ints_length]; omega
  · rw [ints_length]; exact Nat.mul_le_mul hz (Nat.le_refl 1000)
set_option maxHeartbeats 1000000 in
theorem fn_apart {w : World} {row : List Int} (hz : row.length ≤ 1000) : Fn w 183 6 [dLI row] (dLI (apart row)) := by
  refine fn_enter (ns := ["row"]) (n := 5) rfl rfl rfl rfl (bindArgs1 rfl fun _ => rfl) rfl (by decide) ?_ rfl rfl rfl rfl rfl ?_
  · intro k x hx; cases hx with
    | head => right; exact ⟨rfl, rfl⟩
    | tail _ h => cases h
  intro A L g av s hA
  refine go_retR ?_
  have e : dLI (apart row) = .list ((zints 0 (row.length : Int).toNat).flatMap fun i => ((fun i => zints (i + 1) ((row.length : Int) - (i + 1)).toNat) i).map ((fun i j => D.int (ix row j - ix row i)) i)) := by
    simp [apart, List.map_flatMap]; rfl
  have el := apart_len hz
  rw [e]
  refine ev_comp2 (inj := .int) (injB := .int) (σc := [("row", .d (dLI row))]) (cl := [("row", L + 1)]) (src_ints1 hA.hd rfl gl_range (Ev.t (ev_len rfl (Ev.t (ev_name rfl)) (by omega))) (small_le (by omega))) rfl ⟨⟨rfl, rfl, rfl, rfl⟩, trivial⟩ ⟨rfl, trivial⟩ ?_ fun C i hi => ?_
  · have e2 : ((apart row).map D.int).length = _ := congrArg (fun d => match d with | D.list ds => ds.length | _ => 0) e
    rw [List.length_map] at e2
    exact Nat.le_trans (Nat.le_of_eq e2.symm) (by rw [sizeLine_eq]; omega)
  rw [mem_ints] at hi
  refine ⟨_, bindL_name rfl, ⟨rfl, trivial⟩, fun μ => src_ints2 hA.hd rfl gl_range (Ev.t (ev_bin (Ev.t (ev_name rfl)) (Ev.t ev_int) op_add)) (Ev.t (ev_len rfl (Ev.t (ev_name rfl)) (by omega))) (small_le (by omega)), fun j hj => ?_⟩
  rw [mem_ints] at hj
  refine ⟨_, bindL_name rfl, ⟨rfl, rfl, trivial⟩, fun μ => ?_⟩
  exact ev_bin (Ev.t (ev_sub (Ev.t (ev_name rfl)) (Ev.t (ev_name rfl)) (item_ix (by omega) (by omega) (by omega)))) (Ev.t (ev_sub (Ev.t (ev_name rfl)) (Ev.t (ev_name rfl)) (item_ix (by omega) (by omega) (by omega)))) op_sub
end
section

abbrev dLLI (xs : List (List Int)) : D := .list (xs.map dLI)
abbrev dLLLI (xs : List (List (List Int))) : D := .list (xs.map dLLI)

/-- the numbers set between row's, up to ks -/
def belowTo (row : List Int) (ks : List Int) : List (List Int) := ks.foldl (fun below k => below.flatMap fun done => (zints 0 (ix row (k + 1) - ix row k).toNat).map fun step => done ++ [ix row k + step]) [[]]
def below (row : List Int) : List (List Int) := belowTo row (zints 0 ((row.length : Int) - 1).toNat)
def towers : Nat → List Int → List (List (List Int))
  | 0, _ => [[]]
  | n + 1, row => if (row.length : Int) < 2 then [[]] else (below row).flatMap fun one => (towers n one).map fun rest => one :: rest
theorem belowTo_snoc (row : List Int) (pre : List Int) (k : Int) : belowTo row (pre ++ [k]) = (belowTo row pre).flatMap fun done => (zints 0 (ix row (k + 1) - ix row k).toNat).map fun step => done ++ [ix row k + step] := by
  unfold belowTo; rw [List.foldl_append]; rfl

/-- sizes -/
def TowOk : Nat → List Int → Prop
  | 0, row => row.length < 2
  | n + 1, row => row.length ≤ 1000 ∧ (2 ≤ row.length → (∀ k, 0 ≤ k → k + 1 < (row.length : Int) → -1000 ≤ ix row (k + 1) - ix row k ∧ ix row (k + 1) - ix row k ≤ 1000) ∧ (∀ pre post, zints 0 ((row.length : Int) - 1).toNat = pre ++ post → (belowTo row pre).length ≤ 1000) ∧ (towers (n + 1) row).length ≤ 1000 ∧ (∀ one ∈ below row, one.length ≤ 1000 ∧ TowOk n one) ∧ ∀ t ∈ towers (n + 1) row, t.length ≤ 1000)

theorem ev_range {w : World} {A : Around} {env : Env} {σ : Sg} {μ : Mu} {p pos : Pos} {e : Expr} {b : Int} (hh : A.handled = none) (hk : env.kindOf "range" = some .globalImplicit) (he : EvT w A env σ μ e (.int b)) (h : -1000000 ≤ b ∧ b ≤ 1000000)
    (hx : ∀ env, starEach [e] env = (false, eval e env) :: starEach [] env := by intros; rfl) : Src false w A env σ μ (.Call (.Name "range" p) [e] [] pos) ((zints 0 b.toNat).map .int) := src_ints1 hh hk gl_range he (small_le (by omega)) hx
theorem ev_range2 {w : World} {A : Around} {env : Env} {σ : Sg} {μ : Mu} {p pos : Pos} {e1 e2 : Expr} {a b : Int} (hh : A.handled = none) (hk : env.kindOf "range" = some .globalImplicit) (h1 : EvT w A env σ μ e1 (.int a)) (h2 : EvT w A env σ μ e2 (.int b)) (h : -1000000 ≤ a ∧ a ≤ 1000000 ∧ -1000000 ≤ b ∧ b ≤ 1000000)
    (hx : ∀ env, starEach [e1, e2] env = (false, eval e1 env) :: starEach [e2] env := by intros; rfl) (hx2 : ∀ env, starEach [e2] env = (false, eval e2 env) :: starEach [] env := by intros; rfl) (hp : ∀ env pos, (backTo pos (starEach [e2] env)).any (·.1) = false := by intros; rfl) : Src false w A env σ μ (.Call (.Name "range" p) [e1, e2] [] pos) ((zints a (b - a).toNat).map .int) := src_ints2 hh hk gl_range h1 h2 (small_le h) hx hx2 hp
theorem size_fm {α β : Type} {f : α → List β} {inj : β → D} {xs : List α} {n : Nat} (h : (xs.flatMap f).length ≤ n) (hn : n ≤ 1000000) : (xs.flatMap fun x => (f x).map inj).length ≤ sizeLine := by
  have : (xs.flatMap fun x => (f x).map inj) = (xs.flatMap f).map inj := by rw [List.map_flatMap]
  rw [this, List.length_map, sizeLine_eq]; omega

theorem belowTo_len (row : List Int) : ∀ (ks : List Int) (acc : List (List Int)) (m : Nat), (∀ d ∈ acc, d.length = m) → ∀ d ∈ ks.foldl (fun below k => below.flatMap fun done => (zints 0 (ix row (k + 1) - ix row k).toNat).map fun step => done ++ [ix row k + step]) acc, d.length = m + ks.length
  | [], acc, m, h, d, hd => h d hd
  | k :: ks, acc, m, h, d, hd => by
    have := belowTo_len row ks _ (m + 1) (fun d' hd' => by
      obtain ⟨done, h1, h2⟩ := List.mem_flatMap.mp hd'
      obtain ⟨st, _, rfl⟩ := List.mem_map.mp h2
      simp [h done h1]) d hd
    simp only [List.length_cons]; omega
set_option maxHeartbeats 4000000 in
theorem fn_towers {w : World} : ∀ (n : Nat) (row : List Int), TowOk n row → Fn w 161 (n + 7) [dLI row] (dLLLI (towers n row)) := by
  intro n
  induction n with
  | zero => 
    intro row ok
    refine fn_enter1 (a := "row") (fun _ => .inr ⟨rfl, rfl⟩) ?_
    intro A L g av s hA
    have ok : row.length < 2 := ok
    refine go_if (b := true) ?_ (fun _ => go_retR ?_) (fun h => by cases h)
    · have e : (decide ((row.length : Int) < 2)) = true := by simp; omega
      rw [← e]
      exact tr_cmp (Ev.t (ev_len rfl (Ev.t (ev_name rfl)) (by omega))) (Ev.t ev_int) cmp_lt
    · exact ev_list (ds := [dLLI []]) (args_cons' (ev_list args_nil') args_nil')
  | succ n ih =>
    intro row ok
    obtain ⟨hz, ok⟩ := ok
    refine fn_enter1 (a := "row") (fun _ => .inr ⟨rfl, rfl⟩) ?_
    intro A L g av s hA
    refine go_if (tr_cmp (Ev.t (ev_len rfl (Ev.t (ev_name rfl)) (by omega))) (Ev.t ev_int) cmp_lt) (fun h => go_retR ?_) fun h => ?_
    · rw [decide_eq_true_eq] at h
      have e : towers (n + 1) row = [[]] := by show (if _ then _ else _) = _; rw [if_pos h]
      rw [e]
      exact ev_list (args_cons' (ev_list args_nil') args_nil')
    · rw [decide_eq_false_iff_not] at h
      obtain ⟨ok1, ok2, ok3, ok4, ok5⟩ := ok (by omega)
      have hr : (row.length : Int) ≤ 1000 := by exact_mod_cast hz
      refine go_assign (d := dLLI [[]]) (ev_list (args_cons' (ev_list args_nil') args_nil')) (.inl rfl) ?_
      refine go_forN (inj := .int) (xs := zints 0 ((row.length : Int) - 1).toNat) (ev_range hA.hd rfl (Ev.t (ev_bin (Ev.t (ev_len rfl (Ev.t (ev_name rfl)) (by omega))) (Ev.t ev_int) op_sub)) (by omega)) (fun pre => [("below", .d (dLLI (belowTo row pre))), ("row", .d (dLI row))]) (fun _ => []) (fun _ => False) ⟨rfl, rfl, trivial⟩ trivial (fun pre k post hx => ?_) ?_ (fun _ z => z.elim)
      · refine ⟨_, bind_name (.inr ⟨rfl, rfl⟩), fun g' av1 Q' hq => ?_⟩
        have hk := (mem_ints _ _ _).mp (hx ▸ List.mem_append_right pre (List.mem_cons_self) : k ∈ zints 0 ((row.length : Int) - 1).toNat)
        have s1 := ok2 pre (k :: post) hx
        have s2 := ok2 (pre ++ [k]) post (by rw [hx]; simp)
        rw [belowTo_snoc] at s2
        have hd := ok1 k (by omega) (by omega)
        have hlen : ∀ done ∈ belowTo row pre, done.length ≤ 1000 := fun done hd => by
          have e1 := belowTo_len row pre [[]] 0 (by simp) done hd
          have e2 := congrArg List.length hx
          rw [ints_length] at e2; simp at e2; omega
        have gk : ∀ {C : Env} {σ1 : Sg} {μ : Mu}, σ1.lookup ("k" : Str) = some (.d (.int k)) → σ1.lookup ("row" : Str) = some (.d (dLI row)) → ∀ p1 p2 p3, Ev w A C σ1 μ (.Subscript (.Name "row" p1) (.Name "k" p2) p3) (.int (ix row k)) := fun h1 h2 p1 p2 p3 =>
          ev_sub (Ev.t (ev_name h2)) (Ev.t (ev_name h1)) (item_ix (by omega) (by omega) (by omega))
        refine go_comp2 (inj := dLI) (injB := .int) (ys := fun _ => zints 0 (ix row (k + 1) - ix row k).toNat) (f := fun done step => dLI (done ++ [ix row k + step])) (σc := [("k", .d (.int k)), ("row", .d (dLI row))]) (cl := [("row", L + 1), ("k", L + 2)]) (src_list hA.hd (ev_name rfl)) rfl ⟨⟨rfl, rfl, rfl, rfl⟩, ⟨rfl, rfl, rfl, rfl⟩, trivial⟩ ⟨rfl, rfl, trivial⟩ ?_ (fun C done hdn => ?_) rfl ?_
        · have e : ((belowTo row pre).flatMap fun x => (zints 0 (ix row (k + 1) - ix row k).toNat).map fun step => dLI (x ++ [ix row k + step])) = ((belowTo row pre).flatMap fun done => (zints 0 (ix row (k + 1) - ix row k).toNat).map fun step => done ++ [ix row k + step]).map dLI := by
            simp [List.map_flatMap]; rfl
          rw [e, List.length_map, sizeLine_eq]; omega
        · refine ⟨_, bindL_name rfl, ⟨rfl, rfl, trivial⟩, fun μ => ev_range hA.hd rfl (Ev.t (ev_bin (Ev.t (ev_sub (Ev.t (ev_name rfl)) (Ev.t (ev_bin (Ev.t (ev_name rfl)) (Ev.t ev_int) op_add)) (item_ix (by omega) (by omega) (by omega)))) (Ev.t (gk rfl rfl _ _ _)) op_sub)) (by omega), fun step hs => ?_⟩
          refine ⟨_, bindL_name rfl, ⟨rfl, rfl, rfl, trivial⟩, fun μ => ?_⟩
          have e : dLI (done ++ [ix row k + step]) = .list (done.map .int ++ [.int (ix row k + step)]) := by simp
          rw [e]
          exact ev_bin (Ev.t (ev_name rfl)) (Ev.t (ev_list (args_cons' (ev_bin (Ev.t (gk rfl rfl _ _ _)) (Ev.t (ev_name rfl)) op_add) args_nil'))) (op_lists (by have := hlen done hdn; simp [sizeLine_eq]; omega))
        · refine hq.go_nil ⟨⟨?_, rfl, trivial⟩, trivial⟩
          rw [belowTo_snoc]
          have e : ((belowTo row pre).flatMap fun x => (zints 0 (ix row (k + 1) - ix row k).toNat).map fun step => dLI (x ++ [ix row k + step])) = ((belowTo row pre).flatMap fun done => (zints 0 (ix row (k + 1) - ix row k).toNat).map fun step => done ++ [ix row k + step]).map dLI := by
            simp [List.map_flatMap]; rfl
          exact congrArg (fun l => some (SV.d (D.list l))) e
      · refine go_retR ?_
        have e0 : towers (n + 1) row = (below row).flatMap fun one => (towers n one).map fun rest => one :: rest := by
          show (if _ then _ else _) = _; rw [if_neg h]
        have e : dLLLI (towers (n + 1) row) = .list ((below row).flatMap fun one => ((fun one => towers n one) one).map ((fun one rest => dLLI (one :: rest)) one)) := by
          rw [e0]; simp [List.map_flatMap]; rfl
        have e2 : ((towers (n + 1) row).map dLLI).length = _ := congrArg (fun d => match d with | D.list ds => ds.length | _ => 0) e
        rw [List.length_map] at e2
        rw [e]
        refine ev_comp2 (inj := dLI) (injB := dLLI) (σc := []) (cl := []) (src_list hA.hd (ev_name rfl)) rfl trivial trivial (Nat.le_trans (Nat.le_of_eq e2.symm) (by rw [sizeLine_eq]; omega)) fun C one ho => ?_
        refine ⟨_, bindL_name rfl, trivial, fun μ => src_list hA.hd (ev_callF hA rfl (.inl rfl) (args_cons' (ev_name rfl) args_nil') (ih one (ok4 one ho).2)), fun rest' hr' => ?_⟩
        refine ⟨_, bindL_name rfl, ⟨rfl, trivial⟩, fun μ => ?_⟩
        have hl : (one :: rest').length ≤ 1000 := ok5 _ (by rw [e0]; exact List.mem_flatMap.mpr ⟨one, ho, List.mem_map.mpr ⟨rest', hr', rfl⟩⟩)
        exact ev_bin (a := .list [dLI one]) (Ev.t (ev_list (args_cons' (ev_name rfl) args_nil'))) (Ev.t (ev_name rfl)) (op_lists (by simp [sizeLine_eq] at hl ⊢; omega))
end
section

def letter (k : Int) : Str := ⟨#[("abcde" : Str).cps.getD k.toNat 0]⟩
def partPieces (above one : List Int) : List Str := (zints 0 one.length).map fun k => repS (letter k) (ix one k - ix above k + 1)
def partStr (above one : List Int) : Str := Txt.join "" (partPieces above one)
def partsFrom : List Int → List (List Int) → List Str
  | _, [] => []
  | above, one :: r => partStr above one :: partsFrom one r
def partsOf (row : List Int) (tower : List (List Int)) : List Str := "r" :: partsFrom row tower
def lastD (above : List Int) : List (List Int) → List Int
  | [] => above
  | one :: r => lastD one r
theorem lastD_snoc : ∀ (above : List Int) (pre : List (List Int)) (x : List Int), lastD above (pre ++ [x]) = x
  | _, [], x => rfl
  | _, one :: r, x => lastD_snoc one r x
theorem partsFrom_snoc : ∀ (above : List Int) (pre : List (List Int)) (x : List Int), partsFrom above (pre ++ [x]) = partsFrom above pre ++ [partStr (lastD above pre) x]
  | _, [], x => rfl
  | _, one :: r, x => by simp [partsFrom, partsFrom_snoc one r x, lastD]
theorem partsOf_snoc (row : List Int) (pre : List (List Int)) (x : List Int) : partsOf row (pre ++ [x]) = partsOf row pre ++ [partStr (lastD row pre) x] := by
  simp [partsOf, partsFrom_snoc]
/-- sizes -/
def PartsOk : List Int → List (List Int) → Prop
  | _, [] => True
  | above, one :: r => one.length ≤ 5 ∧ one.length ≤ above.length ∧ above.length ≤ 1000 ∧ (∀ k, 0 ≤ k → k < (one.length : Int) → -1000 ≤ ix one k - ix above k ∧ ix one k - ix above k ≤ 1000) ∧ PartsOk one r
theorem PartsOk.at : ∀ {above : List Int} {pre : List (List Int)} {x : List Int} {post : List (List Int)}, PartsOk above (pre ++ x :: post) → x.length ≤ 5 ∧ x.length ≤ (lastD above pre).length ∧ (lastD above pre).length ≤ 1000 ∧ (∀ k, 0 ≤ k → k < (x.length : Int) → -1000 ≤ ix x k - ix (lastD above pre) k ∧ ix x k - ix (lastD above pre) k ≤ 1000)
  | _, [], _, _, h => ⟨h.1, h.2.1, h.2.2.1, h.2.2.2.1⟩
  | _, one :: r, _, _, h => PartsOk.at (above := one) h.2.2.2.2
theorem partsFrom_len : ∀ (above : List Int) (t : List (List Int)), (partsFrom above t).length = t.length
  | _, [] => rfl
  | _, one :: r => by simp [partsFrom, partsFrom_len one r]

set_option maxHeartbeats 4000000 in
theorem fn_parts {w : World} {row : List Int} {tower : List (List Int)} (hz : tower.length ≤ 1000) (ok : PartsOk row tower) : Fn w 166 7 [dLI row, dLLI tower] (dLS (partsOf row tower)) := by
  refine fn_enter2 (a := "row") (b := "tower") (by decide) (fun _ => .inl rfl) (fun _ => .inl rfl) ?_
  intro A L g av s hA
  refine go_new (evn_list (ds := [.str "r"]) (args_cons' ev_str args_nil')) (.inl rfl) fun l hl => ?_
  refine go_assign (ev_name rfl) (.inr ⟨rfl, rfl⟩) ?_
  refine go_forN (inj := dLI) (xs := tower) (src_list hA.hd (ev_name rfl)) (fun pre => [("above", .d (dLI (lastD row pre))), ("parts", .m l)]) (fun pre => [(l, .list ((partsOf row pre).map .str))]) (fun _ => False) ⟨rfl, rfl, trivial⟩ ⟨mu_self, trivial⟩ (fun pre one post hx => ?_) ?_ (fun _ z => z.elim)
  · refine ⟨_, bind_name (.inr ⟨rfl, rfl⟩), fun g' av1 Q' hq => ?_⟩
    subst hx
    obtain ⟨h1, h2, h3, h4⟩ := ok.at
    have hp : pre.length ≤ 1000 := by simp at hz; omega
    have hrep : ∀ k, 0 ≤ k → k < (one.length : Int) → (repS (letter k) (ix one k - ix (lastD row pre) k + 1)).length ≤ 1001 := fun k k0 k1 => by
      have := h4 k k0 k1; rw [repS_length]; show 1 * _ ≤ _; omega
    refine go_app (d := .str (partStr (lastD row pre) one)) rfl mu_self ?_ (by simp [partsOf, partsFrom_len, sizeLine_eq]; omega) ?_
    · refine ev_methB (Ev.t ev_str) gm_join (argsT_cons (Ev.t ?_) argsT_nil) (call_join (ts := partPieces (lastD row pre) one) (joinOk_bound 5 1001 0 (by simpa [partPieces, ints_length] using h1) (fun t ht => ?_) (Nat.le_refl 0) (by decide)))
      · have e : D.list ((partPieces (lastD row pre) one).map .str) = .list ((zints 0 (one.length : Int).toNat).map fun k => D.str (repS (letter k) (ix one k - ix (lastD row pre) k + 1))) := by simp [partPieces]
        rw [e]
        refine ev_comp1m (inj := .int) (σc := [("one", .d (dLI one)), ("above", .d (dLI (lastD row pre)))]) (cl := [("one", L + 2), ("above", L + 1)]) (ev_range hA.hd rfl (Ev.t (ev_len rfl (Ev.t (ev_name rfl)) (by omega))) (by omega)) rfl ⟨⟨rfl, rfl, rfl, rfl⟩, ⟨rfl, rfl, rfl, rfl⟩, trivial⟩ ⟨rfl, rfl, trivial⟩ (by rw [ints_length, sizeLine_eq]; omega) fun C k hk => ?_
        rw [mem_ints] at hk
        have hh := h4 k (by omega) (by omega)
        refine ⟨_, bindL_name rfl, ⟨rfl, rfl, trivial⟩, fun μ => ?_⟩
        refine ev_bin (Ev.t (ev_sub (Ev.t ev_str) (Ev.t (ev_name rfl)) (ItemD.str (c := ("abcde" : Str).cps.getD k.toNat 0) (by omega) (by omega) ?_))) (Ev.t (ev_bin (Ev.t (ev_bin (Ev.t (ev_sub (Ev.t (ev_name rfl)) (Ev.t (ev_name rfl)) (item_ix (by omega) (by omega) (by omega)))) (Ev.t (ev_sub (Ev.t (ev_name rfl)) (Ev.t (ev_name rfl)) (item_ix (by omega) (by omega) (by omega)))) op_sub)) (Ev.t ev_int) op_add)) (op_repS (x := letter k) (by omega) (by omega) (by rw [sizeLine_eq]; show 1 * _ ≤ _; omega))
        · obtain ⟨n, rfl⟩ := Int.eq_ofNat_of_zero_le hk.1
          have : n < 5 := by omega
          match n, this with
          | 0, _ => rfl
          | 1, _ => rfl
          | 2, _ => rfl
          | 3, _ => rfl
          | 4, _ => rfl
      · obtain ⟨k, hk, rfl⟩ := List.mem_map.mp ht
        rw [mem_ints] at hk
        exact hrep k (by omega) (by omega)
    · refine go_assign (ev_name rfl) (.inr ⟨rfl, rfl⟩) ?_
      refine hq.go_nil ⟨⟨?_, rfl, trivial⟩, ⟨?_, trivial⟩⟩
      · rw [lastD_snoc]; rfl
      · rw [mu_self, partsOf_snoc]; simp
  · exact go_retM rfl mu_self

/-! heads -/
abbrev Head := List Str × List Int
abbrev dH (h : Head) : D := .tuple [dLS h.1, dLI h.2]
def headsStep (hs : List Head) (tower : List (List Int)) (parts : List Str) : List Head :=
  if !(tower == []) && !(hs.getLastD ([], []) == (parts.take 2, tower.headD [])) then hs ++ [(parts.take 2, tower.headD [])] else hs
def headsTo (hs : List Head) (ps : List (List (List Int) × List Str)) : List Head := ps.foldl (fun hs p => headsStep hs p.1 p.2) hs
def headsOf (row : List Int) (ts : List (List (List Int))) (ns : List (List Str)) : List Head := headsTo [(["r"], row)] (ts.zip ns)
theorem headsTo_snoc (hs : List Head) (pre : List (List (List Int) × List Str)) (p : List (List Int) × List Str) : headsTo hs (pre ++ [p]) = headsStep (headsTo hs pre) p.1 p.2 := by
  unfold headsTo; rw [List.foldl_append]; rfl
theorem dLI_inj {x y : List Int} : dLI x = dLI y → x = y := fun h => map_inj' (fun _ _ e => D.int.inj e) _ _ (D.list.inj h)
theorem dLS_inj {x y : List Str} : dLS x = dLS y → x = y := fun h => map_inj' (fun _ _ e => D.str.inj e) _ _ (D.list.inj h)
theorem dLLI_inj {x y : List (List Int)} : dLLI x = dLLI y → x = y := fun h => map_inj' (fun _ _ e => dLI_inj e) _ _ (D.list.inj h)
theorem dH_inj {x y : Head} (h : dH x = dH y) : x = y := by
  have := D.tuple.inj h
  simp only [List.cons.injEq, and_true] at this
  exact Prod.ext (dLS_inj this.1) (dLI_inj this.2)
theorem ok_dLI (n : Nat) (x : List Int) : (dLI x).ok (n + 1) = true := ok_ints n x
theorem ok_dLLI (n : Nat) (x : List (List Int)) : (dLLI x).ok (n + 2) = true := ok_list (n + 1) dLI x fun y _ => ok_ints n y
theorem ok_dH (n : Nat) (h : Head) (hs : ∀ x ∈ h.1, PyData.strOk x = true) : (dH h).ok (n + 2) = true := ok_tuple2 (n + 1) _ _ (ok_strs n _ hs) (ok_ints n _)
theorem heads_mem : ∀ (ps : List (List (List Int) × List Str)) (hs : List Head), (∀ h ∈ hs, ∀ x ∈ h.1, PyData.strOk x = true) → (∀ p ∈ ps, ∀ x ∈ p.2, PyData.strOk x = true) → ∀ h ∈ headsTo hs ps, ∀ x ∈ h.1, PyData.strOk x = true
  | [], hs, a, _ => a
  | p :: ps, hs, a, b => by
    refine heads_mem ps (headsStep hs p.1 p.2) (fun h hm x hx => ?_) fun q hq => b q (.tail _ hq)
    unfold headsStep at hm
    split at hm
    · rcases List.mem_append.mp hm with hm | hm
      · exact a h hm x hx
      · rw [List.mem_singleton.mp hm] at hx
        exact b p (.head _) x (List.mem_of_mem_take hx)
    · exact a h hm x hx
theorem heads_len : ∀ (ps : List (List (List Int) × List Str)) (hs : List Head), hs.length ≤ (headsTo hs ps).length ∧ (headsTo hs ps).length ≤ hs.length + ps.length
  | [], hs => by simp [headsTo]
  | p :: ps, hs => by
    have h1 := heads_len ps (headsStep hs p.1 p.2)
    have h2 : hs.length ≤ (headsStep hs p.1 p.2).length ∧ (headsStep hs p.1 p.2).length ≤ hs.length + 1 := by
      unfold headsStep; split <;> simp
    show hs.length ≤ (headsTo (headsStep hs p.1 p.2) ps).length ∧ (headsTo (headsStep hs p.1 p.2) ps).length ≤ _
    simp only [List.length_cons]; omega

set_option maxHeartbeats 4000000 in
theorem fn_heads {w : World} {row : List Int} {ts : List (List (List Int))} {ns : List (List Str)} (hz : ts.length ≤ 1000) (hs : ∀ p ∈ ns, ∀ x ∈ p, PyData.strOk x = true) (hn : ∀ p ∈ ns, p.length ≤ 1000) :
    Fn w 173 9 [dLI row, dLLLI ts, .list (ns.map dLS)] (.list ((headsOf row ts ns).map dH)) := by
  refine fn_enter3 (a := "row") (b := "towers") (c := "names") (by decide) (by decide) (by decide) (fun _ => .inl rfl) (fun _ => .inl rfl) (fun _ => .inl rfl) ?_
  intro A L g av s hA
  refine go_new (evn_list (ds := [dH (["r"], row)]) (args_cons' (ev_tuple (args_cons' (ev_list (args_cons' ev_str args_nil')) (args_cons' (ev_name rfl) args_nil'))) args_nil')) (.inl rfl) fun l hl => ?_
  refine go_forN (inj := fun p => .tuple [dLLI p.1, dLS p.2]) (xs := ts.zip ns) (src_zipM hA.hd rfl gl_zip (ev_name rfl) (ev_name rfl)) (fun pre => [("heads", .m l)]) (fun pre => [(l, .list ((headsTo [(["r"], row)] pre).map dH))]) (fun _ => False) ⟨rfl, trivial⟩ ⟨mu_self, trivial⟩ (fun pre p post hx => ?_) ?_ (fun _ z => z.elim)
  · refine ⟨_, bind_tuple hA.hd (ns := ["tower", "parts"]) (ps := [_, _]) rfl rfl rfl (fun n hn => ?_), fun g' av1 Q' hq => ?_⟩
    · simp only [List.mem_cons, List.mem_nil_iff, or_false] at hn
      rcases hn with rfl | rfl
      · exact .inl rfl
      · exact .inl rfl
    · obtain ⟨tower, parts⟩ := p
      have hp : (tower, parts) ∈ ts.zip ns := hx ▸ List.mem_append_right pre List.mem_cons_self
      have hpn := (List.of_mem_zip hp).2
      have hl1 := heads_len pre [(["r"], row)]
      have hlp : pre.length ≤ 1000 := by
        have := congrArg List.length hx
        rw [List.length_zip] at this; simp at this; omega
      have hlen : 0 < (headsTo [(["r"], row)] pre).length := by simp at hl1; omega
      have hlast : ((headsTo [(["r"], row)] pre).map dH)[((-1 : Int) + ((headsTo [(["r"], row)] pre).map dH).length).toNat]? = some (dH ((headsTo [(["r"], row)] pre).getLastD ([], []))) := by
        rw [List.getElem?_map, List.length_map]
        have e : ((-1 : Int) + ((headsTo [(["r"], row)] pre).length)).toNat = (headsTo [(["r"], row)] pre).length - 1 := by omega
        rw [e, ← List.getLast?_eq_getElem?, List.getLastD_eq_getLast?]
        cases q : (headsTo [(["r"], row)] pre).getLast? with
        | none => rw [List.getLast?_eq_none_iff] at q; rw [q] at hlen; simp at hlen
        | some x => rfl
      have hsok : ∀ x ∈ ((headsTo [(["r"], row)] pre).getLastD ([], [])).1, PyData.strOk x = true := by
        refine heads_mem pre [(["r"], row)] (by intro h hm x hx; cases List.mem_singleton.mp hm; cases List.mem_singleton.mp hx; rw [strOk_list]; decide) (fun p hp => hs _ (List.of_mem_zip (hx ▸ List.mem_append_left _ hp : p ∈ ts.zip ns)).2) _ ?_
        rw [List.getLastD_eq_getLast?]
        cases q : (headsTo [(["r"], row)] pre).getLast? with
        | none => rw [List.getLast?_eq_none_iff] at q; rw [q] at hlen; simp at hlen
        | some x => exact List.mem_of_getLast? q
      have hpl := hn _ hpn
      have evNew : ∀ {C : Env} {σ1 : Sg} {μ : Mu}, σ1.lookup ("tower" : Str) = some (.d (dLLI tower)) → σ1.lookup ("parts" : Str) = some (.d (dLS parts)) → tower ≠ [] → ∀ k1 k2 k3 p1 p2 p3 p4 p5 p6 p7 p8, Ev w A C σ1 μ (.Tuple [.Subscript (.Name "parts" p1) (.Slice none (some (.Constant (.int 2) k1 p2)) none p3) p4, .Subscript (.Name "tower" p5) (.Constant (.int 0) k2 p6) p7] k3 p8) (dH (parts.take 2, tower.headD [])) := fun {C σ1 μ} h1 h2 hne k1 k2 k3 p1 p2 p3 p4 p5 p6 p7 p8 => by
        have e1 : dH (parts.take 2, tower.headD []) = .tuple [.list ((parts.map D.str).take 2), dLI (tower.headD [])] := by simp [List.map_take]
        rw [e1]
        refine ev_tuple (args_cons' (ev_take (n := 2) (Ev.t (ev_name h2)) (Ev.t ev_int) (by rw [List.length_map, sizeLine_eq]; omega)) (args_cons' (ev_sub (Ev.t (ev_name h1)) (Ev.t ev_int) (ItemD.list (by decide) (by decide) ?_)) args_nil'))
        cases tower with
        | nil => exact absurd rfl hne
        | cons t ts => rfl
      have hnew : ∀ x ∈ (parts.take 2, tower.headD []).1, PyData.strOk x = true := fun x hx => hs _ hpn x (List.mem_of_mem_take hx)
      refine go_if (b := !(tower == []) && !((headsTo [(["r"], row)] pre).getLastD ([], []) == (parts.take 2, tower.headD []))) (tr_bool (and_cons (tr_cmp (Ev.t (ev_name rfl)) (Ev.t (ev_list args_nil')) (cmp_neE (hA.le (by omega)) (ok_dLLI 7 tower) rfl (by rw [beq_iff_eq]; exact ⟨fun h => by rw [h]; rfl, fun h => dLLI_inj (y := []) h⟩))) fun hne => ?_)) (fun h => ?_) fun h => ?_
      · have hne : tower ≠ [] := by simpa using hne
        rw [← Bool.and_true (!((headsTo [(["r"], row)] pre).getLastD ([], []) == (parts.take 2, tower.headD [])))]
        refine and_cons (tr_cmp (Ev.t (ev_sub (evt_mut rfl mu_self) (Ev.t (ev_neg (Ev.t ev_int))) (ItemD.last (by decide) ?_ (by decide) hlast))) (Ev.t (evNew rfl rfl hne _ _ _ _ _ _ _ _ _ _ _)) (cmp_neE (hA.le (by omega)) (ok_dH 7 _ hsok) (ok_dH 7 _ hnew) ?_)) fun _ => and_nil
        · rw [List.length_map]; omega
        · rw [beq_iff_eq]; exact ⟨fun h => congrArg dH h, dH_inj⟩
      · have hne : tower ≠ [] := by rw [Bool.and_eq_true] at h; simpa using h.1
        refine go_app rfl mu_self (evNew rfl rfl hne _ _ _ _ _ _ _ _ _ _ _) (by rw [List.length_map, sizeLine_eq]; simp at hl1; omega) (hq.go_nil ⟨⟨rfl, trivial⟩, ⟨?_, trivial⟩⟩)
        rw [mu_self, headsTo_snoc, headsStep, if_pos h]; simp
      · refine hq.go_nil ⟨⟨rfl, trivial⟩, ⟨?_, trivial⟩⟩
        rw [mu_self, headsTo_snoc, headsStep, h]; rfl
  · exact go_retM rfl mu_self
end
section

def stripF : Nat → Int → Int → Int
  | 0, _, n => n
  | f + 1, p, n => if n.fmod p == 0 then stripF f p (n.fdiv p) else n
def divisors (size : Int) : List Int := (zints 2 (size + 1 - 2).toNat).filter fun d => size.fmod d == 0
def primeP (size : Int) : Int := minL (divisors size)
def primeOf (size : Int) : Int := if stripF size.toNat (primeP size) size == 1 then primeP size else 1

theorem noPy {x y : Int} (h0 : 0 < y) (h1 : y ≤ 1000000) : Builtin.divisionGoesByPylong x y = false := PyProof.noPylong_small (by omega)
theorem fdiv_lt {b p : Int} (hb : 0 < b) (hp : 2 ≤ p) (hm : b.fmod p = 0) : 0 < b.fdiv p ∧ b.fdiv p < b := by
  have e := Int.mul_fdiv_add_fmod b p
  rw [hm, Int.add_zero] at e
  have h1 : 0 < b.fdiv p := by
    rcases Int.lt_trichotomy (b.fdiv p) 0 with h | h | h
    · have : p * b.fdiv p ≤ 0 := Int.mul_nonpos_of_nonneg_of_nonpos (by omega) (by omega); omega
    · rw [h] at e; simp at e; omega
    · exact h
  refine ⟨h1, ?_⟩
  have : 2 * b.fdiv p ≤ p * b.fdiv p := Int.mul_le_mul_of_nonneg_right hp (by omega)
  omega
theorem primeP_mem {size : Int} (h : 2 ≤ size) : 2 ≤ primeP size ∧ primeP size ≤ size ∧ divisors size ≠ [] := by
  have hne : divisors size ≠ [] := by
    intro e
    have : size ∈ divisors size := List.mem_filter.mpr ⟨(mem_ints _ _ _).mpr (by omega), by rw [Int.fmod_self]; rfl⟩
    rw [e] at this; simp at this
  have m := (minL_spec _ hne).1
  have := (mem_ints _ _ _).mp (List.mem_filter.mp m).1
  exact ⟨this.1, by have := this.2; show minL _ ≤ _; omega, hne⟩

set_option maxHeartbeats 4000000 in
theorem fn_prime {w : World} {size : Int} (h2 : 2 ≤ size) (hz : size ≤ 1000) : Fn w 193 6 [.int size] (.int (primeOf size)) := by
  refine fn_enter1 (a := "size") (fun _ => .inr ⟨rfl, rfl⟩) ?_
  intro A L g av s hA
  obtain ⟨p2, ps, hne⟩ := primeP_mem h2
  refine go_assign (d := .int (primeP size)) (ev_callB rfl gl_min (argsT_cons (Ev.t ?_) argsT_nil) (call_minL hA.hd hne)) (.inl rfl) ?_
  · refine ev_comp1 (inj := .int) (xs := zints 2 (size + 1 - 2).toNat) (p := fun d => size.fmod d == 0) (f := D.int) (σc := [("size", .d (.int size))]) (cl := [("size", L + 1)]) (ev_range2 hA.hd rfl (Ev.t ev_int) (Ev.t (ev_bin (Ev.t (ev_name rfl)) (Ev.t ev_int) op_add)) (by omega)) rfl ⟨⟨rfl, rfl, rfl, rfl⟩, trivial⟩ ⟨rfl, trivial⟩ (by rw [ints_length, sizeLine_eq]; omega) fun C d hd => ?_
    rw [mem_ints] at hd
    exact ⟨_, bindL_name rfl, ⟨rfl, trivial⟩, fun μ => ifs_one (tr_cmp (Ev.t (ev_bin (Ev.t (ev_name rfl)) (Ev.t (ev_name rfl)) (op_mod (by omega)))) (Ev.t ev_int) cmp_eqI), fun _ μ => ev_name rfl⟩
  · refine go_whileS (β := Int) (fun b => [("size", .d (.int b)), ("prime", .d (.int (primeP size)))]) (fun _ => []) (fun b => b.toNat) (fun b => 0 < b ∧ b ≤ size ∧ ∃ f, b.toNat ≤ f ∧ stripF f (primeP size) b = stripF size.toNat (primeP size) size) size ⟨by omega, by omega, size.toNat, Nat.le_refl _, rfl⟩ ⟨rfl, rfl, trivial⟩ trivial fun b hb => ?_
    obtain ⟨b0, bs, f, bf, hs⟩ := hb
    obtain ⟨f, rfl⟩ : ∃ f', f = f' + 1 := ⟨f - 1, by omega⟩
    refine ⟨_, tr_cmp (Ev.t (ev_bin (Ev.t (ev_name rfl)) (Ev.t (ev_name rfl)) (op_mod (by omega)))) (Ev.t ev_int) cmp_eqI, fun h => ?_, fun h => ?_⟩
    · have hm : b.fmod (primeP size) = 0 := by simpa using h
      obtain ⟨d1, d2⟩ := fdiv_lt b0 p2 hm
      refine ⟨b.fdiv (primeP size), by omega, ⟨d1, by omega, f, by omega, ?_⟩, fun Q' hq => ?_⟩
      · rw [← hs]; show _ = if _ then _ else _; rw [if_pos h]
      · exact go_assign (ev_bin (Ev.t (ev_name rfl)) (Ev.t (ev_name rfl)) (op_div (by omega) (noPy (by omega) (by omega)))) (.inr ⟨rfl, rfl⟩) (hq.go_nil ⟨⟨rfl, rfl, trivial⟩, trivial⟩)
    · have e : stripF size.toNat (primeP size) size = b := by rw [← hs]; show (if _ then _ else _) = _; rw [h]; rfl
      refine go_retR (ev_ifexp (tr_cmp (Ev.t (ev_name rfl)) (Ev.t ev_int) cmp_eqI) (fun h1 => ?_) fun h1 => ?_)
      · rw [primeOf, e, if_pos h1]; exact ev_name rfl
      · rw [primeOf, e, h1]; exact ev_int
end
section

structure Sc where
  count : List Int
  b : Int
  n : Int
  nt : Int
def grow (c : List Int) (b : Int) : List Int := if (c.length : Int) ≤ b then c ++ List.replicate (b - c.length + 1).toNat 0 else c
def bump (c : List Int) (b : Int) : List Int := c.set b.toNat (ix c b + 1)
def scan : List Str → Sc → Sc
  | [], st => st
  | ch :: r, st => if ch == " " then scan r ⟨st.count, st.b + 1, st.n + 1, st.nt⟩ else if ch == "\t" then scan r ⟨bump (grow st.count st.b) st.b, 0, st.n + 1, st.nt + 1⟩ else st
def scanS (x : Str) : Sc := scan (signs x) ⟨[], 0, 0, 0⟩
def wsF (x : Str) (st : Sc) : List (Str × D) := [("raw", .str x), ("n", .int st.n), ("nt", .int st.nt), ("norm", .tuple [.tuple (st.count.map .int), .int st.b]), ("is_simple", .bool (decide ((st.count.length : Int) ≤ 1)))]
theorem grow_len (c : List Int) (b : Int) (h : 0 ≤ b) : b < (grow c b).length ∧ ((grow c b).length : Int) ≤ max (c.length : Int) (b + 1) := by
  unfold grow; split
  · simp; omega
  · omega
theorem bump_len (c : List Int) (b : Int) : (bump c b).length = c.length := by simp [bump]
theorem signs_len (x : Str) : (signs x).length = x.length := by simp [signs]; rfl

theorem SubAll.skip {σ : Sg} {n : Str} {sv : SV} : ∀ {τ : Sg}, SubAll σ τ → (τ.all fun p => p.1 != n) = true → SubAll ((n, sv) :: σ) τ
  | [], _, _ => trivial
  | (y, u) :: r, h, k => by
    rw [List.all_cons, Bool.and_eq_true] at k
    refine ⟨?_, SubAll.skip h.2 k.2⟩
    rw [lookup_cons_ne (by simpa using k.1)]; exact h.1
theorem grow_true {c : List Int} {b : Int} (h : (c.length : Int) ≤ b) : grow c b = c ++ List.replicate (b - c.length + 1).toNat 0 := by unfold grow; rw [if_pos h]
theorem grow_false {c : List Int} {b : Int} (h : ¬ (c.length : Int) ≤ b) : grow c b = c := by unfold grow; rw [if_neg h]
theorem map_set_int (c : List Int) (i : Nat) (v : Int) : (c.set i v).map D.int = (c.map D.int).set i (.int v) := by rw [List.map_set]
set_option maxHeartbeats 4000000 in
theorem new_ws {w : World} {x : Str} (hz : x.length ≤ 100000) : Fn w 83 8 [.str x] (.inst 83 (wsF x (scanS x))) := by
  refine fn_new (n := 6) (self := "self") (ps := ["ws"]) (ex := []) (dex := []) (fun _ _ => .nil) rfl (by decide) (fun y hy => ?_) (fun y vs hv A s Q E _ k => ?_) ?_
  · simp only [List.mem_cons, List.mem_nil_iff, or_false] at hy
    rcases hy with rfl | rfl
    · exact fun _ => .inl rfl
    · exact fun _ => .inl rfl
  · obtain ⟨v, rfl⟩ := List.length_eq_one_iff.mp hv
    exact (wpAny_pure k : wpAny (model P0 w) A (pure [(("self" : Str), .ref y), (("ws" : Str), v)]) Q E s)
  intro A L g av s X DX Q hA hne hQ
  have hnx : DX ≠ X := fun e => hne e.symm
  refine go_setattr (d := .str x) (ev_name rfl) rfl mu_self (mu_skip hnx mu_self) (by decide) ?_
  refine go_swap2 (d1 := .str " ") (d2 := .str "\t") hA.hd (ev_tuple (args_cons' (ev_clsattr rfl (.inl rfl) (fun _ _ => .str _ _)) (args_cons' (ev_clsattr rfl (.inl rfl) (fun _ _ => .str _ _)) args_nil'))) rfl rfl ?_
  refine go_new (evn_list args_nil') (.inl rfl) fun l hl => ?_
  have lx : l ≠ X := fun e => hl (.inst 83 DX) (by rw [e]; exact mu_skip hne mu_self)
  have ldx : l ≠ DX := fun e => hl _ (by rw [e]; exact mu_self)
  refine go_as (σ' := [("count", .m l), ("S", .d (.str " ")), ("T", .d (.str "\t")), ("self", .m X)]) (μ' := [(l, .list []), (X, .inst 83 DX), (DX, .dict (PyData.keyHash w.params) [("raw", .str x)])]) ⟨rfl, rfl, rfl, rfl, trivial⟩ ⟨mu_self, mu_skip (Ne.symm lx) (mu_skip hne mu_self), mu_skip (Ne.symm ldx) mu_self, trivial⟩ ?_
  refine go_three ev_int (.inl rfl) (.inl rfl) (.inl rfl) ?_
  have hsl := signs_len x
  refine go_forM (inj := D.str) (xs := signs x) (src_str hA.hd (ev_attrM rfl (mu_skip (Ne.symm lx) mu_self) (mu_skip (Ne.symm ldx) (mu_skip hnx mu_self)) rfl)) (fun h => by cases h)
    (fun pre σ μ => ∃ st l post, signs x = pre ++ post ∧ scan (signs x) ⟨[], 0, 0, 0⟩ = scan post st ∧ 0 ≤ st.b ∧ st.b ≤ pre.length ∧ st.count.length ≤ pre.length + 1 ∧ l ≠ X ∧ l ≠ DX ∧
      SubAll σ [("S", .d (.str " ")), ("T", .d (.str "\t")), ("self", .m X), ("count", .m l), ("b", .d (.int st.b)), ("n", .d (.int st.n)), ("nt", .d (.int st.nt))] ∧ MuAll μ [(l, .list (st.count.map .int)), (X, .inst 83 DX), (DX, .dict (PyData.keyHash w.params) [("raw", .str x)])])
    (fun σ μ => ∃ st l, scan (signs x) ⟨[], 0, 0, 0⟩ = st ∧ st.count.length ≤ x.length + 1 ∧ l ≠ X ∧ l ≠ DX ∧
      SubAll σ [("S", .d (.str " ")), ("T", .d (.str "\t")), ("self", .m X), ("count", .m l), ("b", .d (.int st.b)), ("n", .d (.int st.n)), ("nt", .d (.int st.nt))] ∧ MuAll μ [(l, .list (st.count.map .int)), (X, .inst 83 DX), (DX, .dict (PyData.keyHash w.params) [("raw", .str x)])]) (fun _ => False)
    ⟨⟨[], 0, 0, 0⟩, l, signs x, rfl, rfl, by decide, by decide, by decide, lx, ldx, ⟨rfl, rfl, rfl, rfl, rfl, rfl, rfl, trivial⟩, ⟨mu_self, mu_skip (Ne.symm lx) mu_self, mu_skip (Ne.symm ldx) (mu_skip hnx mu_self), trivial⟩⟩
    (fun pre ch post σi μi hx hj => ?_) (fun σn μn hn => ?_) (fun _ z => z.elim)
  · obtain ⟨st, l, post', e1, e2, b0, b1, c1, lx, ldx, hs, hm⟩ := hj
    have ep : post' = ch :: post := List.append_cancel_left (e1.symm.trans hx)
    subst ep
    have plen : pre.length + post.length + 1 = x.length := by rw [← hsl, hx]; simp; omega
    refine ⟨_, bind_name (.inl rfl), fun g' av1 Q' hq => ?_⟩
    refine go_as (σ' := [("ch", .d (.str ch)), ("S", .d (.str " ")), ("T", .d (.str "\t")), ("self", .m X), ("count", .m l), ("b", .d (.int st.b)), ("n", .d (.int st.n)), ("nt", .d (.int st.nt))]) ⟨rfl, hs.skip rfl⟩ hm ?_
    refine go_if (tr_cmp (Ev.t (ev_name rfl)) (Ev.t (ev_name rfl)) cmp_eqS) (fun h => ?_) fun h => ?_
    · refine go_assign (ev_bin (Ev.t (ev_name rfl)) (Ev.t ev_int) op_add) (.inl rfl) (go_assign (ev_bin (Ev.t (ev_name rfl)) (Ev.t ev_int) op_add) (.inl rfl) (hq.go_nil ?_))
      refine ⟨⟨st.count, st.b + 1, st.n + 1, st.nt⟩, l, post, by rw [hx]; simp, ?_, ?_, ?_, ?_, lx, ldx, ⟨rfl, rfl, rfl, rfl, rfl, rfl, rfl, trivial⟩, ⟨mu_self, mu_skip (Ne.symm lx) mu_self, mu_skip (Ne.symm ldx) (mu_skip hnx mu_self), trivial⟩⟩
      · rw [e2]; show (if _ then _ else _) = _; rw [if_pos h]
      · show 0 ≤ st.b + 1; omega
      · show st.b + 1 ≤ _; rw [List.length_append]; simp; omega
      · show st.count.length ≤ _; rw [List.length_append]; simp; omega
    · refine go_if (tr_cmp (Ev.t (ev_name rfl)) (Ev.t (ev_name rfl)) cmp_eqS) (fun h' => ?_) fun h' => ?_
      · refine go_assign (ev_bin (Ev.t (ev_name rfl)) (Ev.t ev_int) op_add) (.inl rfl) (go_assign (ev_bin (Ev.t (ev_name rfl)) (Ev.t ev_int) op_add) (.inl rfl) ?_)
        have gl := grow_len st.count st.b b0
        refine go_if (tr_cmp (Ev.t (ev_name rfl)) (Ev.t (ev_len (f := .int) (xs := st.count) rfl (evt_mut rfl mu_self) (by omega))) cmp_ge) (fun hg => ?_) fun hg => ?_
        · have hg : (st.count.length : Int) ≤ st.b := of_decide_eq_true hg
          refine go_new (evn_add (xs := st.count.map .int) (ys := (List.replicate (st.b - st.count.length + 1).toNat [D.int 0]).flatten) (evt_mut rfl mu_self) (Ev.t (ev_bin (Ev.t (ev_list (args_cons' ev_int args_nil'))) (Ev.t (ev_bin (Ev.t (ev_bin (Ev.t (ev_name rfl)) (Ev.t (ev_len (f := .int) (xs := st.count) rfl (evt_mut rfl mu_self) (by omega))) op_sub)) (Ev.t ev_int) op_add)) (op_repL (by omega) (by omega) (by simp; omega)))) (by rw [rep_one, List.length_replicate, List.length_map, sizeLine_eq]; omega)) (.inl rfl) fun l2 hl2 => ?_
          have l2x : l2 ≠ X := fun e => hl2 (.inst 83 DX) (by rw [e]; exact mu_skip (Ne.symm lx) mu_self)
          have l2dx : l2 ≠ DX := fun e => hl2 _ (by rw [e]; exact mu_skip (Ne.symm ldx) (mu_skip hnx mu_self))
          have ec : st.count.map D.int ++ (List.replicate (st.b - st.count.length + 1).toNat [D.int 0]).flatten = (grow st.count st.b).map D.int := by
            rw [rep_one, grow_true hg, List.map_append, List.map_replicate]
          rw [ec]
          refine go_as (σ' := [("count", .m l2), ("S", .d (.str " ")), ("T", .d (.str "\t")), ("self", .m X), ("b", .d (.int st.b)), ("n", .d (.int (st.n + 1))), ("nt", .d (.int (st.nt + 1)))]) (μ' := [(l2, .list ((grow st.count st.b).map .int)), (X, .inst 83 DX), (DX, .dict (PyData.keyHash w.params) [("raw", .str x)])]) ⟨rfl, rfl, rfl, rfl, rfl, rfl, rfl, trivial⟩ ⟨mu_self, mu_skip (Ne.symm l2x) (mu_skip (Ne.symm lx) mu_self), mu_skip (Ne.symm l2dx) (mu_skip (Ne.symm ldx) (mu_skip hnx mu_self)), trivial⟩ ?_
          refine go_setitem (i := st.b) (d := .int (ix (grow st.count st.b) st.b + 1)) rfl mu_self (ev_bin (Ev.t (ev_sub (evt_mut rfl mu_self) (Ev.t (ev_name rfl)) (item_ix (row := grow st.count st.b) b0 gl.1 (by omega)))) (Ev.t ev_int) op_add) (Ev.t (ev_name rfl)) b0 (by rw [List.length_map]; exact gl.1) (by omega) mu_put ?_
          refine go_assign ev_int (.inl rfl) (hq.go_nil ?_)
          refine ⟨⟨bump (grow st.count st.b) st.b, 0, st.n + 1, st.nt + 1⟩, l2, post, by rw [hx]; simp, ?_, Int.le_refl 0, by show (0 : Int) ≤ _; omega, ?_, l2x, l2dx, ⟨rfl, rfl, rfl, rfl, rfl, rfl, rfl, trivial⟩, ⟨?_, mu_skip (Ne.symm l2x) (mu_skip (Ne.symm l2x) mu_self), mu_skip (Ne.symm l2dx) (mu_skip (Ne.symm l2dx) (mu_skip hnx mu_self)), trivial⟩⟩
          · rw [e2]; show (if _ then _ else if _ then _ else _) = _; rw [h, if_neg (by decide), if_pos h']
          · show (bump (grow st.count st.b) st.b).length ≤ _; rw [bump_len, List.length_append]; simp; omega
          · rw [mu_self]; exact congrArg (fun q => some (MO.list q)) (map_set_int _ _ _).symm
        · have hg : ¬ (st.count.length : Int) ≤ st.b := of_decide_eq_false hg
          have ec : st.count.map D.int = (grow st.count st.b).map D.int := by rw [grow_false hg]
          rw [ec]
          refine go_setitem (i := st.b) (d := .int (ix (grow st.count st.b) st.b + 1)) rfl mu_self (ev_bin (Ev.t (ev_sub (evt_mut rfl mu_self) (Ev.t (ev_name rfl)) (item_ix (row := grow st.count st.b) b0 gl.1 (by omega)))) (Ev.t ev_int) op_add) (Ev.t (ev_name rfl)) b0 (by rw [List.length_map]; exact gl.1) (by omega) mu_put ?_
          refine go_assign ev_int (.inl rfl) (hq.go_nil ?_)
          refine ⟨⟨bump (grow st.count st.b) st.b, 0, st.n + 1, st.nt + 1⟩, l, post, by rw [hx]; simp, ?_, Int.le_refl 0, by show (0 : Int) ≤ _; omega, ?_, lx, ldx, ⟨rfl, rfl, rfl, rfl, rfl, rfl, rfl, trivial⟩, ⟨?_, mu_skip (Ne.symm lx) (mu_skip (Ne.symm lx) mu_self), mu_skip (Ne.symm ldx) (mu_skip (Ne.symm ldx) (mu_skip hnx mu_self)), trivial⟩⟩
          · rw [e2]; show (if _ then _ else if _ then _ else _) = _; rw [h, if_neg (by decide), if_pos h']
          · show (bump (grow st.count st.b) st.b).length ≤ _; rw [bump_len, List.length_append]; simp; omega
          · rw [mu_self]; exact congrArg (fun q => some (MO.list q)) (map_set_int _ _ _).symm
      · refine hq.go_brk ⟨st, l, ?_, by omega, lx, ldx, ⟨rfl, rfl, rfl, rfl, rfl, rfl, rfl, trivial⟩, ⟨mu_self, mu_skip (Ne.symm lx) mu_self, mu_skip (Ne.symm ldx) (mu_skip hnx mu_self), trivial⟩⟩
        rw [e2]; show (if _ then _ else if _ then _ else _) = _; rw [h, h']; rfl
  · have fin : ∃ st l, st = scanS x ∧ st.count.length ≤ x.length + 1 ∧ l ≠ X ∧ l ≠ DX ∧
      SubAll σn [("S", .d (.str " ")), ("T", .d (.str "\t")), ("self", .m X), ("count", .m l), ("b", .d (.int st.b)), ("n", .d (.int st.n)), ("nt", .d (.int st.nt))] ∧ MuAll μn [(l, .list (st.count.map .int)), (X, .inst 83 DX), (DX, .dict (PyData.keyHash w.params) [("raw", .str x)])] := by
      rcases hn with ⟨st, l, post, e1, e2, b0, b1, c1, q⟩ | ⟨st, l, e1, q⟩
      · have : post = [] := by
          have := congrArg List.length e1; rw [List.length_append] at this; exact List.eq_nil_of_length_eq_zero (by omega)
        subst this
        exact ⟨st, l, e2.symm, by rw [← hsl]; exact c1, q⟩
      · exact ⟨st, l, e1.symm, q⟩
    obtain ⟨st, l, e, c1, lx, ldx, hs, hm⟩ := fin
    refine go_as hs hm ?_
    have lx' := Ne.symm lx
    have ldx' := Ne.symm ldx
    refine go_setattr (ev_name rfl) rfl (mu_skip lx' mu_self) (mu_skip ldx' (mu_skip hnx mu_self)) (Nat.le_of_ble_eq_true rfl) ?_
    refine go_setattr (ev_name rfl) rfl (mu_skip hne (mu_skip lx' mu_self)) mu_self (Nat.le_of_ble_eq_true rfl) ?_
    refine go_setattr (ev_tuple (args_cons' (ev_callB rfl gl_tuple (argsT_cons (evt_mut rfl (mu_skip ldx (mu_skip ldx mu_self))) argsT_nil) (call_tupleL (by rw [List.length_map, sizeLine_eq]; omega))) (args_cons' (ev_name rfl) args_nil'))) rfl (mu_skip hne (mu_skip hne (mu_skip lx' mu_self))) mu_self (Nat.le_of_ble_eq_true rfl) ?_
    refine go_setattr (ev_cmp (Ev.t (ev_len (f := .int) (xs := st.count) rfl (evt_mut rfl (mu_skip ldx (mu_skip ldx (mu_skip ldx mu_self)))) (by omega))) (Ev.t ev_int) cmp_le) rfl (mu_skip hne (mu_skip hne (mu_skip hne (mu_skip lx' mu_self)))) mu_self (Nat.le_of_ble_eq_true rfl) ?_
    refine hQ.go (mu_skip hne (mu_skip hne (mu_skip hne (mu_skip hne (mu_skip lx' mu_self))))) ?_
    rw [mu_self, ← e]; rfl
end
section

abbrev dW (x : Str) (st : Sc) : D := .inst 83 (wsF x st)
structure WsOk (st : Sc) : Prop where
  len : st.count.length ≤ 10000
  item : ∀ i : Int, 0 ≤ i → i < st.count.length → 0 ≤ ix st.count i ∧ ix st.count i ≤ 1000000
  b : 0 ≤ st.b ∧ st.b ≤ 1000000
  n : 0 ≤ st.n ∧ st.n ≤ 1000000
  nt : 0 ≤ st.nt ∧ st.nt ≤ 1000000
def longest (st : Sc) : Int := max ((st.count.length : Int) - 1) st.b
def ilSum (st : Sc) (ts : Int) (is : List Int) : Int := is.foldl (fun il i => il + i.fdiv ts * ix st.count i) 0
def ilvl (st : Sc) (ts : Int) : Int := st.b + ts * (ilSum st ts (zints ts ((st.count.length : Int) - ts).toNat) + st.nt)
theorem ilSum_snoc (st : Sc) (ts : Int) (pre : List Int) (i : Int) : ilSum st ts (pre ++ [i]) = ilSum st ts pre + i.fdiv ts * ix st.count i := by
  unfold ilSum; rw [List.foldl_append]; rfl

theorem noPy' {x y : Int} (h0 : 0 < y) (h1 : y ≤ 1000000) : Builtin.divisionGoesByPylong x y = false := PyProof.noPylong_small (by omega)
section
variable {w : World}
theorem ev_lenT {A : Around} {env : Env} {σ : Sg} {μ : Mu} {α : Type} {f : α → D} {xs : List α} {p pos : Pos} {e : Expr} (hk : env.kindOf "len" = some .globalImplicit) (he : EvT w A env σ μ e (.tuple (xs.map f))) (hz : xs.length ≤ 1000000)
    (hx : ∀ env, starEach [e] env = (false, eval e env) :: starEach [] env := by intros; rfl)
    (hq : ∀ env, eval (.Call (.Name "len" p) [e] [] pos) env = (do callWith pos (← eval (.Name "len" p) env) [] (backTo pos (starEach [e] env)) (backToKw pos (keywordEach [] env))) := by intros; rfl) : Ev w A env σ μ (.Call (.Name "len" p) [e] [] pos) (.int xs.length) := by
  have c := call_lenT (w := w) (A := A) (ds := xs.map f) (by rw [List.length_map, sizeLine_eq]; omega)
  rw [List.length_map] at c
  exact ev_callB hk gl_len (argsT_cons he argsT_nil hx) c (hx := hx) (hq := hq)
theorem item_tix {A : Around} {row : List Int} {i : Int} (h0 : 0 ≤ i) (h1 : i < row.length) (hz : row.length ≤ 1000000) : ItemD w A (.tuple (row.map .int)) (.int i) (.int (ix row i)) := by
  refine ItemD.tuple (j := i.toNat) (by omega) (by omega) ?_ (ix_get h0 h1)
  rw [List.length_map]
  have e : (if i < 0 then i + (row.length : Int) else i) = i := if_neg (by omega)
  unfold seqIndex?
  dsimp only
  rw [e, if_pos (by simp; omega)]
theorem mulOk {a b : Int} (ha : a.natAbs < 2 ^ 60) (hb : b.natAbs < 2 ^ 60) : IntMulOk a b := IntMulOk.of_le (intBits_le_iff.mpr ha) (intBits_le_iff.mpr hb) (by decide)

set_option maxHeartbeats 4000000 in
theorem fn_longest {x : Str} {st : Sc} (ok : WsOk st) : Fn w 45 6 [dW x st] (.int (longest st)) := by
  refine fn_enter1 (a := "self") (fun _ => .inl rfl) ?_
  intro A L g av s hA
  refine go_unpack (d := .tuple [.tuple (st.count.map .int), .int st.b]) (ev_attr (ev_name rfl) rfl) (bind_tuple hA.hd (ns := ["count", "trailing"]) (ps := [_, _]) rfl rfl rfl (fun n hn => ?_)) (go_retR ?_)
  · simp only [List.mem_cons, List.mem_nil_iff, or_false] at hn
    rcases hn with rfl | rfl
    · exact .inl rfl
    · exact .inl rfl
  · have := ok.len
    exact ev_callB rfl gl_max (argsT_cons (Ev.t (ev_bin (Ev.t (ev_lenT rfl (Ev.t (ev_name rfl)) (by omega))) (Ev.t ev_int) op_sub)) (argsT_cons (Ev.t (ev_name rfl)) argsT_nil)) (call_max2 hA.hd)

theorem natAbs_mul_lt {a b : Int} {m n : Nat} (ha : a.natAbs ≤ m) (hb : b.natAbs ≤ n) : (a * b).natAbs ≤ m * n := by
  rw [Int.natAbs_mul]; exact Nat.mul_le_mul ha hb
theorem fdiv_le {i ts : Int} (hi : 0 ≤ i) (ht : 1 ≤ ts) : 0 ≤ i.fdiv ts ∧ i.fdiv ts ≤ i := by
  rw [Int.fdiv_eq_ediv_of_nonneg _ (by omega)]
  exact ⟨Int.ediv_nonneg hi (by omega), Int.ediv_le_self _ hi⟩
theorem ilSum_bound {st : Sc} (ok : WsOk st) {ts : Int} (ht : 1 ≤ ts) : ∀ (is : List Int), (∀ i ∈ is, 0 ≤ i ∧ i < st.count.length) → 0 ≤ ilSum st ts is ∧ ilSum st ts is ≤ is.length * 10000000000 := by
  have gen : ∀ (is : List Int) (acc : Int), 0 ≤ acc → (∀ i ∈ is, 0 ≤ i ∧ i < st.count.length) → 0 ≤ is.foldl (fun il i => il + i.fdiv ts * ix st.count i) acc ∧ is.foldl (fun il i => il + i.fdiv ts * ix st.count i) acc ≤ acc + is.length * 10000000000 := by
    intro is
    induction is with
    | nil => intro acc h _; simp; exact h
    | cons i is ih =>
      intro acc h hi
      obtain ⟨h1, h2⟩ := hi i (.head _)
      obtain ⟨h3, h4⟩ := ok.item i h1 h2
      obtain ⟨h5, h6⟩ := fdiv_le h1 ht
      have hl := ok.len
      have h7 : 0 ≤ i.fdiv ts * ix st.count i := Int.mul_nonneg h5 h3
      have h8 : i.fdiv ts * ix st.count i ≤ 10000 * 1000000 := Int.mul_le_mul (by omega) h4 h3 (by decide)
      obtain ⟨a, b⟩ := ih (acc + i.fdiv ts * ix st.count i) (by omega) fun j hj => hi j (.tail _ hj)
      refine ⟨a, Int.le_trans b ?_⟩
      simp only [List.length_cons]; push_cast; omega
  intro is hi
  have := gen is 0 (Int.le_refl 0) hi
  simpa [ilSum] using this
set_option maxHeartbeats 4000000 in
theorem fn_ilvl {x : Str} {st : Sc} (ok : WsOk st) {ts : Int} (h1 : 1 ≤ ts) (h2 : ts ≤ 100000) : Fn w 52 6 [dW x st, .int ts] (.int (ilvl st ts)) := by
  refine fn_enter2 (a := "self") (b := "tabsize") (by decide) (fun _ => .inl rfl) (fun _ => .inl rfl) ?_
  intro A L g av s hA
  have hl := ok.len
  refine go_unpack (d := .tuple [.tuple (st.count.map .int), .int st.b]) (ev_attr (ev_name rfl) rfl) (bind_tuple hA.hd (ns := ["count", "trailing"]) (ps := [_, _]) rfl rfl rfl (fun n hn => ?_)) ?_
  · simp only [List.mem_cons, List.mem_nil_iff, or_false] at hn
    rcases hn with rfl | rfl
    · exact .inl rfl
    · exact .inl rfl
  refine go_assign ev_int (.inl rfl) ?_
  have inr : ∀ {pre post i}, zints ts ((st.count.length : Int) - ts).toNat = pre ++ i :: post → (0 ≤ i ∧ ts ≤ i ∧ i < (st.count.length : Int)) ∧ ∀ j : Int, j ∈ pre → 0 ≤ j ∧ j < (st.count.length : Int) := fun {pre post i} hx => by
    refine ⟨?_, fun j hj => ?_⟩
    · have := (mem_ints _ _ _).mp (hx ▸ List.mem_append_right pre (List.mem_cons_self) : i ∈ zints ts _); omega
    · have := (mem_ints _ _ _).mp (hx ▸ List.mem_append_left _ hj : j ∈ zints ts _); omega
  refine go_forN (inj := .int) (xs := zints ts ((st.count.length : Int) - ts).toNat) (ev_range2 hA.hd rfl (Ev.t (ev_name rfl)) (Ev.t (ev_lenT rfl (Ev.t (ev_name rfl)) (by omega))) (by omega)) (fun pre => [("self", .d (dW x st)), ("tabsize", .d (.int ts)), ("count", .d (.tuple (st.count.map .int))), ("trailing", .d (.int st.b)), ("il", .d (.int (ilSum st ts pre)))]) (fun _ => []) (fun _ => False) ⟨rfl, rfl, rfl, rfl, rfl, trivial⟩ trivial (fun pre i post hx => ?_) ?_ (fun _ z => z.elim)
  · refine ⟨_, bind_name (.inl rfl), fun g' av1 Q' hq => ?_⟩
    obtain ⟨⟨i0, i1, i2⟩, hp⟩ := inr hx
    obtain ⟨a1, a2⟩ := ok.item i i0 i2
    obtain ⟨b1, b2⟩ := fdiv_le i0 h1
    refine go_assign (ev_bin (Ev.t (ev_name rfl)) (Ev.t (ev_bin (Ev.t (ev_bin (Ev.t (ev_name rfl)) (Ev.t (ev_name rfl)) (op_div (by omega) (noPy' (by omega) (by omega))))) (Ev.t (ev_sub (Ev.t (ev_name rfl)) (Ev.t (ev_name rfl)) (item_tix i0 i2 (by omega)))) (op_mul (mulOk (by omega) (by omega))))) op_add) (.inl rfl) (hq.go_nil ⟨⟨rfl, rfl, rfl, rfl, ?_, trivial⟩, trivial⟩)
    rw [ilSum_snoc]; rfl
  · obtain ⟨c1, c2⟩ := ilSum_bound ok h1 (zints ts ((st.count.length : Int) - ts).toNat) fun i hi => by rw [mem_ints] at hi; exact ⟨by omega, by omega⟩
    rw [ints_length] at c2
    have hb := ok.b
    have hnt := ok.nt
    exact go_retR (ev_bin (Ev.t (ev_name rfl)) (Ev.t (ev_bin (Ev.t (ev_name rfl)) (Ev.t (ev_bin (Ev.t (ev_name rfl)) (Ev.t (ev_attr (ev_name rfl) rfl)) op_add)) (op_mul (mulOk (by omega) (by omega))))) op_add)
end
end
section

def equalP (a b : Sc) : Bool := decide (a.count = b.count ∧ a.b = b.b)
def nOf (a b : Sc) : Int := max (longest a) (longest b) + 1
def geAt (a b : Sc) (ts : Int) : Bool := decide (ilvl b ts ≤ ilvl a ts)
def lessP (a b : Sc) : Bool := if decide (b.n ≤ a.n) then false else if decide ((a.count.length : Int) ≤ 1) && decide ((b.count.length : Int) ≤ 1) then decide (a.nt ≤ b.nt) else (zints 2 (nOf a b + 1 - 2).toNat).all fun ts => !geAt a b ts
def witTo (a b : Sc) (is : List Int) : List (Int × Int × Int) := (is.filter (geAt a b)).map fun ts => (ts, ilvl a ts, ilvl b ts)
def witP (a b : Sc) : List (Int × Int × Int) := witTo a b (zints 1 (nOf a b + 1 - 1).toNat)
abbrev dT3 (t : Int × Int × Int) : D := .tuple [.int t.1, .int t.2.1, .int t.2.2]
theorem dTup_inj {a b : List Int} {x y : Int} (h : D.tuple [.tuple (a.map .int), .int x] = .tuple [.tuple (b.map .int), .int y]) : a = b ∧ x = y := by
  have := D.tuple.inj h
  simp only [List.cons.injEq, and_true] at this
  exact ⟨map_inj' (fun _ _ e => D.int.inj e) _ _ (D.tuple.inj this.1), D.int.inj this.2⟩
theorem ok_tints (n : Nat) (xs : List Int) : D.ok (n + 1) (.tuple (xs.map .int)) = true := by
  cases n <;> simp [D.ok, List.all_eq_true]

section
variable {w : World} {x y : Str} {a b : Sc}
theorem nOf_bound (ha : WsOk a) (hb : WsOk b) : 0 ≤ nOf a b ∧ nOf a b ≤ 1000001 := by
  have := ha.len; have := ha.b; have := hb.len; have := hb.b
  unfold nOf longest; omega
set_option maxHeartbeats 4000000 in
theorem fn_equal (ha : WsOk a) (hb : WsOk b) : Fn w 59 8 [dW x a, dW y b] (.bool (equalP a b)) := by
  refine fn_enter2 (a := "self") (b := "other") (by decide) (fun _ => .inl rfl) (fun _ => .inl rfl) ?_
  intro A L g av s hA
  refine go_retR (ev_cmp (Ev.t (ev_attr (ev_name rfl) rfl)) (Ev.t (ev_attr (ev_name rfl) rfl)) (cmp_eqE hA (ok_tuple2 8 _ _ (ok_tints 7 _) rfl) (ok_tuple2 8 _ _ (ok_tints 7 _) rfl) ?_))
  unfold equalP; rw [decide_eq_true_eq]
  exact ⟨fun h => by rw [h.1, h.2], dTup_inj⟩
theorem ev_nOf (ha : WsOk a) (hb : WsOk b) {A : Around} {env : Env} {σ : Sg} {μ : Mu} (hA : AOk A 6) (h1 : σ.lookup ("self" : Str) = some (.d (dW x a))) (h2 : σ.lookup ("other" : Str) = some (.d (dW y b))) (hk : env.kindOf "max" = some .globalImplicit) {p1 p2 p3 p4 p5 p6 p7 p8 p9 p10 : Pos} {k : Nat}
    (hl : (p3.endLine == p4.line) = true) (hl2 : (p6.endLine == p7.line) = true) :
    Ev w A env σ μ (.BinOp (.Call (.Name "max" p1) [.Call (.Attribute (.Name "self" p2) "longest_run_of_spaces" p3) [] [] p4, .Call (.Attribute (.Name "other" p5) "longest_run_of_spaces" p6) [] [] p7] [] p8) .Add (.Constant (.int 1) k p9) p10) (.int (nOf a b)) :=
  ev_bin (Ev.t (ev_callB hk gl_max (argsT_cons (Ev.t (ev_methF0 hA (ev_name h1) (gm_inst rfl) (fn_longest ha) (hl := hl))) (argsT_cons (Ev.t (ev_methF0 hA (ev_name h2) (gm_inst rfl) (fn_longest hb) (hl := hl2))) argsT_nil)) (call_max2 hA.hd))) (Ev.t ev_int) op_add
set_option maxHeartbeats 4000000 in
theorem fn_less (ha : WsOk a) (hb : WsOk b) (hn : nOf a b ≤ 99999) : Fn w 73 8 [dW x a, dW y b] (.bool (lessP a b)) := by
  refine fn_enter2 (a := "self") (b := "other") (by decide) (fun _ => .inl rfl) (fun _ => .inl rfl) ?_
  intro A L g av s hA
  have hA6 := hA.le (show 6 ≤ 7 by decide)
  have hno := nOf_bound ha hb
  refine go_if (tr_cmp (Ev.t (ev_attr (ev_name rfl) rfl)) (Ev.t (ev_attr (ev_name rfl) rfl)) cmp_ge) (fun h => ?_) fun h => ?_
  · have e : lessP a b = false := by unfold lessP; rw [if_pos h]
    rw [e]; exact go_retR ev_bool
  refine go_if (tr_bool (and_cons (tr_val (Ev.t (ev_attr (ev_name rfl) rfl)) ty_bool) fun _ => and_cons (tr_val (Ev.t (ev_attr (ev_name rfl) rfl)) ty_bool) fun _ => and_nil)) (fun h2 => ?_) fun h2 => ?_
  · rw [Bool.and_true] at h2
    have e : lessP a b = decide (a.nt ≤ b.nt) := by unfold lessP; rw [h, if_neg (by decide), if_pos h2]
    rw [e]; exact go_retR (ev_cmp (Ev.t (ev_attr (ev_name rfl) rfl)) (Ev.t (ev_attr (ev_name rfl) rfl)) cmp_le)
  rw [Bool.and_true] at h2
  have e : lessP a b = (zints 2 (nOf a b + 1 - 2).toNat).all fun ts => !geAt a b ts := by unfold lessP; rw [h, if_neg (by decide), h2, if_neg (by decide)]
  refine go_assign (ev_nOf ha hb hA6 rfl rfl rfl (by decide) (by decide)) (.inl rfl) ?_
  refine go_forM (inj := .int) (xs := zints 2 (nOf a b + 1 - 2).toNat) (ev_range2 hA.hd rfl (Ev.t ev_int) (Ev.t (ev_bin (Ev.t (ev_name rfl)) (Ev.t ev_int) op_add)) (by omega)) (fun h => by cases h) (fun pre σ μ => (pre.all fun ts => !geAt a b ts) = true ∧ SubAll σ [("self", .d (dW x a)), ("other", .d (dW y b))]) (fun _ _ => False) (fun r => r = .bool (lessP a b)) ⟨rfl, rfl, rfl, trivial⟩ (fun pre ts post σi μi hx hj => ?_) (fun σn μn hn => ?_) (fun r hr v h' tk' e a => ⟨h', tk', rfl, e, hr ▸ a⟩)
  · refine ⟨_, bind_name (.inl rfl), fun g' av1 Q' hq => ?_⟩
    have hts := (mem_ints _ _ _).mp (hx ▸ List.mem_append_right pre (List.mem_cons_self) : ts ∈ zints 2 (nOf a b + 1 - 2).toNat)
    refine go_as (σ' := [("ts", .d (.int ts)), ("self", .d (dW x a)), ("other", .d (dW y b))]) (μ' := []) ⟨rfl, hj.2.skip rfl⟩ trivial ?_
    refine go_if (tr_cmp (Ev.t (ev_methF hA6 (ev_name rfl) (gm_inst rfl) (args_cons' (ev_name rfl) args_nil') (fn_ilvl ha (by omega) (by omega)))) (Ev.t (ev_methF hA6 (ev_name rfl) (gm_inst rfl) (args_cons' (ev_name rfl) args_nil') (fn_ilvl hb (by omega) (by omega)))) cmp_ge) (fun hg => ?_) fun hg => ?_
    · have e2 : lessP a b = false := by
        rw [e, hx, List.all_append, List.all_cons, show geAt a b ts = true from hg]; simp
      exact hq.go_ret ev_bool (by rw [e2])
    · refine hq.go_nil ⟨?_, ⟨rfl, rfl, trivial⟩⟩
      rw [List.all_append, hj.1, List.all_cons, show geAt a b ts = false from hg]; rfl
  · rcases hn with ⟨h3, hs⟩ | z
    · rw [e, h3]; exact go_retR ev_bool
    · exact z.elim
theorem witTo_snoc (pre : List Int) (ts : Int) : witTo a b (pre ++ [ts]) = witTo a b pre ++ (if geAt a b ts then [(ts, ilvl a ts, ilvl b ts)] else []) := by
  unfold witTo; rw [List.filter_append, List.map_append]
  congr 1
  cases h : geAt a b ts <;> simp [h]
theorem witTo_len (pre : List Int) : (witTo a b pre).length ≤ pre.length := by
  unfold witTo; rw [List.length_map]; exact List.length_filter_le _ _
set_option maxHeartbeats 4000000 in
theorem fn_wit (ha : WsOk a) (hb : WsOk b) (hn : nOf a b ≤ 99999) : Fn w 80 8 [dW x a, dW y b] (.list ((witP a b).map dT3)) := by
  refine fn_enter2 (a := "self") (b := "other") (by decide) (fun _ => .inl rfl) (fun _ => .inl rfl) ?_
  intro A L g av s hA
  have hA6 := hA.le (show 6 ≤ 7 by decide)
  have hno := nOf_bound ha hb
  refine go_assign (ev_nOf ha hb hA6 rfl rfl rfl (by decide) (by decide)) (.inl rfl) ?_
  refine go_new (evn_list args_nil') (.inl rfl) fun l hl => ?_
  refine go_forN (inj := .int) (xs := zints 1 (nOf a b + 1 - 1).toNat) (ev_range2 hA.hd rfl (Ev.t ev_int) (Ev.t (ev_bin (Ev.t (ev_name rfl)) (Ev.t ev_int) op_add)) (by omega)) (fun pre => [("self", .d (dW x a)), ("other", .d (dW y b)), ("a", .m l)]) (fun pre => [(l, .list ((witTo a b pre).map dT3))]) (fun _ => False) ⟨rfl, rfl, rfl, trivial⟩ ⟨mu_self, trivial⟩ (fun pre ts post hx => ?_) ?_ (fun _ z => z.elim)
  · refine ⟨_, bind_name (.inl rfl), fun g' av1 Q' hq => ?_⟩
    have hts := (mem_ints _ _ _).mp (hx ▸ List.mem_append_right pre (List.mem_cons_self) : ts ∈ zints 1 (nOf a b + 1 - 1).toNat)
    have hpre : pre.length ≤ 100000 := by
      have := congrArg List.length hx; rw [ints_length] at this; simp at this; omega
    have hw := witTo_len (a := a) (b := b) pre
    refine go_if (tr_cmp (Ev.t (ev_methF hA6 (ev_name rfl) (gm_inst rfl) (args_cons' (ev_name rfl) args_nil') (fn_ilvl ha (by omega) (by omega)))) (Ev.t (ev_methF hA6 (ev_name rfl) (gm_inst rfl) (args_cons' (ev_name rfl) args_nil') (fn_ilvl hb (by omega) (by omega)))) cmp_ge) (fun hg => ?_) fun hg => ?_
    · refine go_app (d := dT3 (ts, ilvl a ts, ilvl b ts)) rfl mu_self (ev_tuple (args_cons' (ev_name rfl) (args_cons' (ev_methF hA6 (ev_name rfl) (gm_inst rfl) (args_cons' (ev_name rfl) args_nil') (fn_ilvl ha (by omega) (by omega))) (args_cons' (ev_methF hA6 (ev_name rfl) (gm_inst rfl) (args_cons' (ev_name rfl) args_nil') (fn_ilvl hb (by omega) (by omega))) args_nil')))) (by rw [List.length_map, sizeLine_eq]; omega) (hq.go_nil ⟨⟨rfl, rfl, rfl, trivial⟩, ⟨?_, trivial⟩⟩)
      rw [mu_self, witTo_snoc, show geAt a b ts = true from hg]; simp
    · refine hq.go_nil ⟨⟨rfl, rfl, rfl, trivial⟩, ⟨?_, trivial⟩⟩
      rw [mu_self, witTo_snoc, show geAt a b ts = false from hg]; simp
  · exact go_retM rfl mu_self
end
end
section

def lackingOf (heaps : Int) (sizes : List Int) : List Int := (zints 2 (heaps + 1 - 2).toNat).filter fun d => (heaps.fmod d == 0) && (!sizes.contains d && true)
def restsOf (heaps : Int) (sums : List Int) : List Int := sums.map fun s => s.fmod heaps
def countsOf (heaps : Int) (sums : List Int) : List Int := (zints 0 heaps.toNat).map fun rest => (((restsOf heaps sums).count rest : Nat) : Int)
def balanced (heaps : Int) (sums : List Int) : Bool := minL (countsOf heaps sums) == maxL (countsOf heaps sums)
def expOf (t : Int × Int × Int) : Int := (t.2.1 + 1 - t.2.2).fdiv t.1
def manyTo (ts : List (Int × Int × Int)) : Int := ts.foldl (fun m t => m * primeOf t.1 ^ (expOf t).toNat) 1
def moreOf (ap pl : List Int) (size : Int) : Int := ((ap.filter fun d => d.fmod size == 0).length : Int) - ((pl.filter fun p => p.fmod size == 0).length : Int)
def columnOf (near : List Int) (size : Int) : Int := size * (near.map fun run => run.fdiv size + 1).sum
def evenTo (ap pl near : List Int) (is : List Int) : List (Int × Int × Int) := (is.filter fun size => moreOf ap pl size == 0).map fun size => (size, columnOf near size, columnOf near size)
def unevenTo (ap pl near : List Int) (is : List Int) : List (Int × Int × Int) := (is.filter fun size => !(moreOf ap pl size == 0)).map fun size => (size, columnOf near size + size * moreOf ap pl size, columnOf near size + 1)

def placesOf (row : List Int) : List Int := apart (zints 0 row.length)
def farOf (row : List Int) : List Int := apart row ++ (placesOf row).map fun p => p - 1
def nearOf (row : List Int) : List Int := placesOf row ++ (apart row).map fun d => d - 1
def txt1 (row : List Int) : Str := leadS (farOf row) ++ "x \t"
def txt2 (row : List Int) : Str := leadS (nearOf row) ++ "x \t"
def txt3 (row : List Int) : Str := leadS (nearOf row) ++ " x \t"
def spanOf (row : List Int) : Int := row.getLastD 0 - row.headD 0
def toldOf (row : List Int) : List (Int × Int × Int) := witP (scanS (txt1 row)) (scanS (txt3 row))
def tabsT (m : Int) : Str := repS "\t" m
def behT (m : Int) : Str := " " ++ repS "\t" m
def spcT (m : Int) : Str := repS " " m ++ " "

structure DealtOk (row sums : List Int) : Prop where
  rowLen : 1 ≤ row.length ∧ row.length ≤ 30
  farOk : (farOf row).length ≤ 1000 ∧ ∀ n ∈ farOf row, 0 ≤ n ∧ n ≤ 10000
  nearOk : (nearOf row).length ≤ 1000 ∧ ∀ n ∈ nearOf row, 0 ≤ n ∧ n ≤ 10000
  len : (leadS (farOf row)).length ≤ 90000 ∧ (leadS (nearOf row)).length ≤ 90000
  span : 0 ≤ spanOf row ∧ spanOf row ≤ 1000
  w1 : WsOk (scanS (txt1 row))
  w2 : WsOk (scanS (txt2 row))
  w3 : WsOk (scanS (txt3 row))
  n13 : nOf (scanS (txt1 row)) (scanS (txt3 row)) ≤ 1000
  n21 : nOf (scanS (txt2 row)) (scanS (txt1 row)) ≤ 1000
  told : ∀ t ∈ toldOf row, 2 ≤ t.1 ∧ t.1 ≤ 1000 ∧ 0 ≤ expOf t ∧ expOf t ≤ 20
  sumLen : sums.length ≤ 1000
  many : manyTo (toldOf row) = sums.length
  bal : ∀ heaps ∈ zints 2 4, balanced heaps sums = (lackingOf heaps ((toldOf row).map fun t => t.1)).isEmpty
  less13 : lessP (scanS (txt1 row)) (scanS (txt3 row)) = ((sums.length : Int) == 1)
  eq12 : equalP (scanS (txt1 row)) (scanS (txt2 row)) = ((sums.length : Int) == 1)
  wt : WsOk (scanS (tabsT sums.length))
  wb : WsOk (scanS (behT sums.length))
  wsp : WsOk (scanS (spcT sums.length))
  ntb : nOf (scanS (tabsT sums.length)) (scanS (behT sums.length)) ≤ 10000
  nts : nOf (scanS (tabsT sums.length)) (scanS (spcT sums.length)) ≤ 10000
  witTB : witP (scanS (tabsT sums.length)) (scanS (behT sums.length)) = [(2, 2 * (sums.length : Int), 2 * (sums.length : Int))]
  lessTB : lessP (scanS (tabsT sums.length)) (scanS (behT sums.length)) = false
  lessTS : lessP (scanS (tabsT sums.length)) (scanS (spcT sums.length)) = false
  less21 : lessP (scanS (txt2 row)) (scanS (txt1 row)) = false
  eq23 : equalP (scanS (txt2 row)) (scanS (txt3 row)) = false
  uneven : toldOf row = unevenTo (apart row) (placesOf row) (nearOf row) (zints 1 (spanOf row + 2 - 1).toNat)
  even : witP (scanS (txt2 row)) (scanS (txt1 row)) = evenTo (apart row) (placesOf row) (nearOf row) (zints 1 (spanOf row + 2 - 1).toNat)

abbrev sigD (row sums : List Int) : Sg := [("row", .d (dLI row)), ("sums", .d (dLI sums)), ("apart", .d (dLI (apart row))), ("places", .d (dLI (placesOf row))), ("near", .d (dLI (nearOf row))), ("one", .d (dW (txt1 row) (scanS (txt1 row)))), ("other", .d (dW (txt2 row) (scanS (txt2 row)))), ("longer", .d (dW (txt3 row) (scanS (txt3 row)))), ("told", .d (.list ((toldOf row).map dT3))), ("sizes", .d (dLI ((toldOf row).map fun t => t.1)))]
theorem told_len {row : List Int} {sums : List Int} (ok : DealtOk row sums) : (toldOf row).length ≤ 1000 := by
  have h1 := witTo_len (a := scanS (txt1 row)) (b := scanS (txt3 row)) (zints 1 (nOf (scanS (txt1 row)) (scanS (txt3 row)) + 1 - 1).toNat)
  have h2 := ok.n13
  rw [ints_length] at h1
  show (witTo _ _ _).length ≤ _
  omega
theorem manyTo_snoc (pre : List (Int × Int × Int)) (t : Int × Int × Int) : manyTo (pre ++ [t]) = manyTo pre * primeOf t.1 ^ (expOf t).toNat := by
  unfold manyTo; rw [List.foldl_append]; rfl
theorem primeOf_bound {n : Int} (h : 2 ≤ n) (h1 : n ≤ 1000) : 1 ≤ primeOf n ∧ primeOf n ≤ 1000 := by
  obtain ⟨a, b, _⟩ := primeP_mem h
  unfold primeOf; split <;> omega
theorem pow_bits {n : Int} (h : 2 ≤ n) (h1 : n ≤ 1000) {e : Int} (he : e ≤ 20) : Builtin.Int.intBits (primeOf n ^ e.toNat) ≤ 201 := by
  obtain ⟨a, b⟩ := primeOf_bound h h1
  have hb : Builtin.Int.intBits (primeOf n) ≤ 10 := intBits_le_iff.mpr (by omega)
  exact Nat.le_trans (intBits_pow_le hb e.toNat) (by omega)
theorem many_bits {pre : List (Int × Int × Int)} : (∀ t ∈ pre, 2 ≤ t.1 ∧ t.1 ≤ 1000 ∧ 0 ≤ expOf t ∧ expOf t ≤ 20) → Builtin.Int.intBits (manyTo pre) ≤ 1 + pre.length * 201 := by
  have gen : ∀ (pre : List (Int × Int × Int)) (m : Int) (k : Nat), Builtin.Int.intBits m ≤ k → (∀ t ∈ pre, 2 ≤ t.1 ∧ t.1 ≤ 1000 ∧ 0 ≤ expOf t ∧ expOf t ≤ 20) → Builtin.Int.intBits (pre.foldl (fun m t => m * primeOf t.1 ^ (expOf t).toNat) m) ≤ k + pre.length * 201 := by
    intro pre
    induction pre with
    | nil => intro m k h _; simpa using h
    | cons t ts ih =>
      intro m k h hh
      obtain ⟨a, b, c, d⟩ := hh t (.head _)
      have := ih (m * primeOf t.1 ^ (expOf t).toNat) (k + 201) (Nat.le_trans (intBits_mul_le h (pow_bits a b d)) (Nat.le_refl _)) fun u hu => hh u (.tail _ hu)
      refine Nat.le_trans this ?_
      simp only [List.length_cons]; omega
  exact fun h => gen pre 1 1 (by decide) h
theorem sum_bound : ∀ (l : List Int) (k : Int), (∀ x ∈ l, 0 ≤ x ∧ x ≤ k) → 0 ≤ l.sum ∧ l.sum ≤ l.length * k
  | [], k, _ => by simp
  | x :: l, k, h => by
    obtain ⟨a, b⟩ := sum_bound l k fun y hy => h y (.tail _ hy)
    obtain ⟨c, d⟩ := h x (.head _)
    have e : ((l.length + 1 : Nat) : Int) * k = l.length * k + k := by push_cast; rw [Int.add_mul, Int.one_mul]
    simp only [List.sum_cons, List.length_cons, e]; omega
theorem evenTo_snoc (ap pl near pre : List Int) (size : Int) : evenTo ap pl near (pre ++ [size]) = evenTo ap pl near pre ++ (if moreOf ap pl size == 0 then [(size, columnOf near size, columnOf near size)] else []) := by
  unfold evenTo; rw [List.filter_append, List.map_append]
  congr 1
  cases h : moreOf ap pl size == 0 <;> simp [h]
theorem unevenTo_snoc (ap pl near pre : List Int) (size : Int) : unevenTo ap pl near (pre ++ [size]) = unevenTo ap pl near pre ++ (if moreOf ap pl size == 0 then [] else [(size, columnOf near size + size * moreOf ap pl size, columnOf near size + 1)]) := by
  unfold unevenTo; rw [List.filter_append, List.map_append]
  congr 1
  cases h : moreOf ap pl size == 0 <;> simp [h]
theorem evenTo_len (ap pl near pre : List Int) : (evenTo ap pl near pre).length ≤ pre.length := by
  unfold evenTo; rw [List.length_map]; exact List.length_filter_le _ _
theorem unevenTo_len (ap pl near pre : List Int) : (unevenTo ap pl near pre).length ≤ pre.length := by
  unfold unevenTo; rw [List.length_map]; exact List.length_filter_le _ _
set_option maxHeartbeats 8000000 in
theorem fn_dealt {w : World} {row sums : List Int} (ok : DealtOk row sums) : Fn w 198 12 [dLI row, dLI sums] (.bool true) := by
  refine fn_enter2 (a := "row") (b := "sums") (by decide) (fun _ => .inl rfl) (fun _ => .inl rfl) ?_
  intro A L g av s hA
  have rl := ok.rowLen
  have h6 := hA.le (show 6 ≤ 11 by decide)
  have h8 := hA.le (show 8 ≤ 11 by decide)
  have h7 := hA.le (show 7 ≤ 11 by decide)
  have apl := apart_len (row := row) (by omega)
  have pll := apart_len (row := zints 0 row.length) (by rw [ints_length]; omega)
  refine go_assign (ev_callF h6 rfl (.inl rfl) (args_cons' (ev_name rfl) args_nil') (fn_apart (row := row) (by omega))) (.inl rfl) ?_
  refine go_assign (d := dLI (placesOf row)) (ev_callF h6 rfl (.inl rfl) (args_cons' (ev_listrange hA.hd rfl rfl (Ev.t (ev_len (f := .int) (xs := row) rfl (Ev.t (ev_name rfl)) (by omega))) (by omega)) args_nil') (fn_apart (row := zints 0 row.length) (by rw [ints_length]; omega))) (.inl rfl) ?_
  have efar : dLI (farOf row) = .list ((apart row).map .int ++ (placesOf row).map fun p => .int (p - 1)) := by simp [farOf]
  have enear : dLI (nearOf row) = .list ((placesOf row).map .int ++ (apart row).map fun p => .int (p - 1)) := by simp [nearOf]
  refine go_assign (d := dLI (farOf row)) ?_ (.inl rfl) ?_
  · rw [efar]
    refine ev_bin (Ev.t (ev_name rfl)) (Ev.t (ev_comp1m (inj := .int) (σc := []) (cl := []) (src_list hA.hd (ev_name rfl)) rfl trivial trivial (by rw [sizeLine_eq]; show (apart (zints 0 row.length)).length ≤ _; omega) fun C p hp => ?_)) (op_lists (by have := ok.farOk.1; simp [farOf] at this; simp [sizeLine_eq]; omega))
    exact ⟨_, bindL_name rfl, trivial, fun μ => ev_bin (Ev.t (ev_name rfl)) (Ev.t ev_int) op_sub⟩
  refine go_assign (d := dLI (nearOf row)) ?_ (.inl rfl) ?_
  · rw [enear]
    refine ev_bin (Ev.t (ev_name rfl)) (Ev.t (ev_comp1m (inj := .int) (σc := []) (cl := []) (src_list hA.hd (ev_name rfl)) rfl trivial trivial (by rw [sizeLine_eq]; omega) fun C p hp => ?_)) (op_lists (by have := ok.nearOk.1; simp [nearOf] at this; simp [sizeLine_eq]; omega))
    exact ⟨_, bindL_name rfl, trivial, fun μ => ev_bin (Ev.t (ev_name rfl)) (Ev.t ev_int) op_sub⟩
  have hl := ok.len
  have lx : ("x \t" : Str).length = 3 := rfl
  have lx4 : (" x \t" : Str).length = 4 := rfl
  refine go_assign (d := dW (txt1 row) (scanS (txt1 row))) (ev_callF h8 rfl (.inl rfl) (args_cons' (ev_bin (Ev.t (ev_callF h6 rfl (.inl rfl) (args_cons' (ev_name rfl) args_nil') (fn_lead ok.farOk.1 ok.farOk.2))) (Ev.t ev_str) (op_cat (by rw [lx, sizeLine_eq]; omega))) args_nil') (new_ws (by rw [app_length, lx]; omega))) (.inl rfl) ?_
  refine go_assign (d := dW (txt2 row) (scanS (txt2 row))) (ev_callF h8 rfl (.inl rfl) (args_cons' (ev_bin (Ev.t (ev_callF h6 rfl (.inl rfl) (args_cons' (ev_name rfl) args_nil') (fn_lead ok.nearOk.1 ok.nearOk.2))) (Ev.t ev_str) (op_cat (by rw [lx, sizeLine_eq]; omega))) args_nil') (new_ws (by rw [app_length, lx]; omega))) (.inl rfl) ?_
  refine go_assign (d := dW (txt3 row) (scanS (txt3 row))) (ev_callF h8 rfl (.inl rfl) (args_cons' (ev_bin (Ev.t (ev_callF h6 rfl (.inl rfl) (args_cons' (ev_name rfl) args_nil') (fn_lead ok.nearOk.1 ok.nearOk.2))) (Ev.t ev_str) (op_cat (by rw [lx4, sizeLine_eq]; omega))) args_nil') (new_ws (by rw [app_length, lx4]; omega))) (.inl rfl) ?_
  refine go_assign (d := .list ((toldOf row).map dT3)) (ev_methF h8 (ev_name rfl) (gm_inst rfl) (args_cons' (ev_name rfl) args_nil') (fn_wit ok.w1 ok.w3 (by have := ok.n13; omega))) (.inl rfl) ?_
  have tl := told_len ok
  refine go_assign (d := dLI ((toldOf row).map fun t => t.1)) ?_ (.inr ⟨rfl, rfl⟩) ?_
  · have e : dLI ((toldOf row).map fun t => t.1) = .list ((toldOf row).map fun t => .int t.1) := by simp
    rw [e]
    refine ev_comp1m (inj := dT3) (σc := []) (cl := []) (src_list hA.hd (ev_name rfl)) rfl trivial trivial (by rw [sizeLine_eq]; omega) fun C t ht => ?_
    refine ⟨_, bindL_tuple hA.hd (ns := ["size", "first", "second"]) (ps := [_, _, _]) rfl rfl rfl (fun n hn => ?_), trivial, fun μ => ev_name rfl⟩
    simp only [List.mem_cons, List.mem_nil_iff, or_false] at hn
    rcases hn with rfl | rfl | rfl <;> rfl
  refine go_forN (inj := .int) (xs := zints 2 ((6 : Int) - 2).toNat) (ev_range2 hA.hd rfl (Ev.t ev_int) (Ev.t ev_int) (by decide)) (fun _ => sigD row sums) (fun _ => []) (fun _ => False) ⟨rfl, rfl, rfl, rfl, rfl, rfl, rfl, rfl, rfl, rfl, trivial⟩ trivial (fun pre heaps post hx => ?_) ?_ (fun _ z => z.elim)
  · refine ⟨_, bind_name (.inr ⟨rfl, rfl⟩), fun g' av1 Q' hq => ?_⟩
    have hm : heaps ∈ zints 2 4 := (hx ▸ List.mem_append_right pre (List.mem_cons_self) : heaps ∈ zints 2 ((6 : Int) - 2).toNat)
    have hh := (mem_ints _ _ _).mp hm
    have hbal := ok.bal heaps hm
    have hsl := ok.sumLen
    refine go_assign (d := dLI (restsOf heaps sums)) ?_ (.inr ⟨rfl, rfl⟩) ?_
    · have e : dLI (restsOf heaps sums) = .list (sums.map fun s => .int (s.fmod heaps)) := by simp [restsOf]
      rw [e]
      refine ev_comp1m (inj := .int) (σc := [("heaps", .d (.int heaps))]) (cl := [("heaps", L + 3)]) (src_list hA.hd (ev_name rfl)) rfl ⟨⟨rfl, rfl, rfl, rfl⟩, trivial⟩ ⟨rfl, trivial⟩ (by rw [sizeLine_eq]; omega) fun C s hs => ?_
      exact ⟨_, bindL_name rfl, ⟨rfl, trivial⟩, fun μ => ev_bin (Ev.t (ev_name rfl)) (Ev.t (ev_name rfl)) (op_mod (by omega))⟩
    refine go_comp1m (inj := .int) (xs := zints 0 heaps.toNat) (f := fun rest => .int (((restsOf heaps sums).count rest : Nat) : Int)) (σc := [("rests", .d (dLI (restsOf heaps sums)))]) (cl := [("rests", L + 4)]) (ev_range hA.hd rfl (Ev.t (ev_name rfl)) (by omega)) rfl ⟨⟨rfl, rfl, rfl, rfl⟩, trivial⟩ ⟨rfl, trivial⟩ (by rw [ints_length, sizeLine_eq]; omega) (fun C rest hr => ?_) rfl ?_
    · exact ⟨_, bindL_name rfl, ⟨rfl, trivial⟩, fun μ => ev_methB (Ev.t (ev_name rfl)) gm_count (argsT_cons (Ev.t (ev_name rfl)) argsT_nil) call_count⟩
    refine go_comp1 (inj := .int) (xs := zints 2 (heaps + 1 - 2).toNat) (p := fun d => (heaps.fmod d == 0) && (!((toldOf row).map fun t => t.1).contains d && true)) (f := .int) (σc := [("heaps", .d (.int heaps)), ("sizes", .d (dLI ((toldOf row).map fun t => t.1)))]) (cl := [("sizes", L + 2), ("heaps", L + 3)]) (ev_range2 hA.hd rfl (Ev.t ev_int) (Ev.t (ev_bin (Ev.t (ev_name rfl)) (Ev.t ev_int) op_add)) (by omega)) rfl ⟨⟨rfl, rfl, rfl, rfl⟩, ⟨rfl, rfl, rfl, rfl⟩, trivial⟩ ⟨rfl, rfl, trivial⟩ (by rw [ints_length, sizeLine_eq]; omega) (fun C d hd => ?_) rfl ?_
    · rw [mem_ints] at hd
      exact ⟨_, bindL_name rfl, ⟨rfl, rfl, trivial⟩, fun μ => ifs_one (tr_bool (and_cons (tr_cmp (Ev.t (ev_bin (Ev.t (ev_name rfl)) (Ev.t (ev_name rfl)) (op_mod (by omega)))) (Ev.t ev_int) cmp_eqI) fun _ => and_cons (tr_cmp (Ev.t (ev_name rfl)) (Ev.t (ev_name rfl)) (cmp_notIn h7)) fun _ => and_nil)), fun _ μ => ev_name rfl⟩
    have hcn : countsOf heaps sums ≠ [] := fun e => by
      have := congrArg List.length e
      simp [countsOf, ints_length] at this; omega
    have ec : (zints 0 heaps.toNat).map (fun rest => D.int (((restsOf heaps sums).count rest : Nat) : Int)) = (countsOf heaps sums).map .int := by simp [countsOf]
    rw [ec]
    refine go_if (b := !(balanced heaps sums == (lackingOf heaps ((toldOf row).map fun t => t.1)).isEmpty)) (tr_cmp (Ev.t (ev_cmp (Ev.t (ev_callB rfl gl_min (argsT_cons (Ev.t (ev_name rfl)) argsT_nil) (call_minL hA.hd hcn))) (Ev.t (ev_callB rfl gl_max (argsT_cons (Ev.t (ev_name rfl)) argsT_nil) (call_maxL hA.hd hcn))) cmp_eqI)) (Ev.t (ev_cmp (Ev.t (ev_name rfl)) (Ev.t (ev_list args_nil')) (cmp_eqE h7 (ok_ints 8 _) rfl ?_))) cmp_isNotB) (fun h => ?_) fun h => ?_
    · rw [List.isEmpty_iff]
      exact ⟨fun e => by show D.list ((lackingOf heaps _).map .int) = _; rw [e]; rfl, fun e => dLI_inj (y := []) e⟩
    · rw [hbal] at h; simp at h
    · exact hq.go_nil ⟨⟨rfl, rfl, rfl, rfl, rfl, rfl, rfl, rfl, rfl, rfl, trivial⟩, trivial⟩
  refine go_assign ev_int (.inl rfl) ?_
  refine go_forN (inj := dT3) (xs := toldOf row) (src_list hA.hd (ev_name rfl)) (fun pre => ("many", .d (.int (manyTo pre))) :: sigD row sums) (fun _ => []) (fun _ => False) ⟨rfl, rfl, rfl, rfl, rfl, rfl, rfl, rfl, rfl, rfl, rfl, trivial⟩ trivial (fun pre t post hx => ?_) ?_ (fun _ z => z.elim)
  · refine ⟨_, bind_tuple hA.hd (ns := ["size", "first", "second"]) (ps := [_, _, _]) rfl rfl rfl (fun n hn => ?_), fun g' av1 Q' hq => ?_⟩
    · simp only [List.mem_cons, List.mem_nil_iff, or_false] at hn
      rcases hn with rfl | rfl | rfl
      · exact .inr ⟨rfl, rfl⟩
      · exact .inl rfl
      · exact .inl rfl
    · have ht := ok.told t (hx ▸ List.mem_append_right pre List.mem_cons_self)
      obtain ⟨t1, t2, t3, t4⟩ := ht
      have hb := many_bits (pre := pre) fun u hu => ok.told u (hx ▸ List.mem_append_left _ hu)
      have hpl : pre.length ≤ 1000 := by have := congrArg List.length hx; simp at this; omega
      have pb := pow_bits t1 t2 t4
      obtain ⟨q1, q2⟩ := primeOf_bound t1 t2
      have ib : Builtin.Int.intBits (primeOf t.1) ≤ 10 := intBits_le_iff.mpr (by omega)
      have ib2 : ((Builtin.Int.intBits (primeOf t.1) : Nat) : Int) * expOf t ≤ 10 * 20 := Int.mul_le_mul (by omega) t4 t3 (by decide)
      refine go_assign (d := .int (manyTo (pre ++ [t]))) ?_ (.inl rfl) (hq.go_nil ⟨⟨rfl, rfl, rfl, rfl, rfl, rfl, rfl, rfl, rfl, rfl, rfl, trivial⟩, trivial⟩)
      rw [manyTo_snoc]
      exact ev_bin (Ev.t (ev_name rfl)) (Ev.t (ev_bin (Ev.t (ev_callF h6 rfl (.inl rfl) (args_cons' (ev_name rfl) args_nil') (fn_prime t1 t2))) (Ev.t (ev_bin (Ev.t (ev_bin (Ev.t (ev_bin (Ev.t (ev_name rfl)) (Ev.t ev_int) op_add)) (Ev.t (ev_name rfl)) op_sub)) (Ev.t (ev_name rfl)) (op_div (by omega) (noPy (by omega) (by omega))))) (op_pow (n := expOf t) t3 (by omega)))) (op_mul (IntMulOk.of_le hb pb (by omega)))
  have hsl := ok.sumLen
  refine go_as (σ' := ("many", .d (.int sums.length)) :: sigD row sums) (μ' := []) ⟨congrArg (fun i => some (SV.d (.int i))) ok.many, rfl, rfl, rfl, rfl, rfl, rfl, rfl, rfl, rfl, rfl, trivial⟩ trivial ?_
  refine go_if (b := ((sums.length : Int) != sums.length)) (tr_cmp (Ev.t (ev_name rfl)) (Ev.t (ev_len (f := .int) (xs := sums) rfl (Ev.t (ev_name rfl)) (by omega))) cmp_neI) (fun h => by simp at h) fun _ => ?_
  refine go_if (tr_bool (or_cons (tr_cmp (Ev.t (ev_methF h8 (ev_name rfl) (gm_inst rfl) (args_cons' (ev_name rfl) args_nil') (fn_less ok.w1 ok.w3 (by have := ok.n13; omega)))) (Ev.t (ev_cmp (Ev.t (ev_name rfl)) (Ev.t ev_int) cmp_eqI)) cmp_isNotB) fun _ => or_cons (tr_cmp (Ev.t (ev_methF h8 (ev_name rfl) (gm_inst rfl) (args_cons' (ev_name rfl) args_nil') (fn_equal ok.w1 ok.w2))) (Ev.t (ev_cmp (Ev.t (ev_name rfl)) (Ev.t ev_int) cmp_eqI)) cmp_isNotB) fun _ => or_nil)) (fun h => ?_) fun _ => ?_
  · rw [ok.less13, ok.eq12] at h; simp at h
  have lsp : (" " : Str).length = 1 := rfl
  have ltb : ("\t" : Str).length = 1 := rfl
  have ltabs : (repS "\t" (sums.length : Int)).length ≤ 1000 := by rw [repS_length, ltb]; omega
  have lspc : (repS " " (sums.length : Int)).length ≤ 1000 := by rw [repS_length, lsp]; omega
  refine go_assign (d := dW (tabsT sums.length) (scanS (tabsT sums.length))) (ev_callF h8 rfl (.inl rfl) (args_cons' (ev_bin (Ev.t ev_str) (Ev.t (ev_name rfl)) (op_repS (by omega) (by omega) (by rw [ltb, sizeLine_eq]; omega))) args_nil') (new_ws (by omega))) (.inl rfl) ?_
  refine go_assign (d := dW (behT sums.length) (scanS (behT sums.length))) (ev_callF h8 rfl (.inl rfl) (args_cons' (ev_bin (Ev.t ev_str) (Ev.t (ev_bin (Ev.t ev_str) (Ev.t (ev_name rfl)) (op_repS (by omega) (by omega) (by rw [ltb, sizeLine_eq]; omega)))) (op_cat (by rw [lsp, sizeLine_eq]; omega))) args_nil') (new_ws (by rw [app_length, lsp]; omega))) (.inl rfl) ?_
  have m3 : (2 : Int) * (sums.length : Int) ≤ 2000 := by omega
  have e3 : D.list ([(2, 2 * (sums.length : Int), 2 * (sums.length : Int))].map dT3) = .list [.tuple [.int 2, .int (2 * sums.length), .int (2 * sums.length)]] := rfl
  refine go_if (b := !true) (tr_cmp (Ev.t (ev_methF h8 (ev_name rfl) (gm_inst rfl) (args_cons' (ev_name rfl) args_nil') (fn_wit ok.wt ok.wb (by have := ok.ntb; omega)))) (Ev.t (ev_list (ds := [.tuple [.int 2, .int (2 * sums.length), .int (2 * sums.length)]]) (args_cons' (ev_tuple (args_cons' ev_int (args_cons' (ev_bin (Ev.t ev_int) (Ev.t (ev_name rfl)) (op_mul (mulOk (by decide) (by omega)))) (args_cons' (ev_bin (Ev.t ev_int) (Ev.t (ev_name rfl)) (op_mul (mulOk (by decide) (by omega)))) args_nil')))) args_nil'))) (cmp_neE h7 (ok_list 8 _ _ fun t _ => ok_tuple3 7 _ _ _ rfl rfl rfl) rfl ?_)) (fun h => by cases h) fun _ => ?_
  · rw [ok.witTB, e3]; exact ⟨fun _ => rfl, fun _ => rfl⟩
  refine go_if (tr_bool (or_cons (tr_cmp (Ev.t (ev_methF h8 (ev_name rfl) (gm_inst rfl) (args_cons' (ev_name rfl) args_nil') (fn_less ok.wt ok.wb (by have := ok.ntb; omega)))) (Ev.t ev_bool) cmp_isNotB) fun _ => or_cons (tr_cmp (Ev.t (ev_methF h8 (ev_name rfl) (gm_inst rfl) (args_cons' (ev_callF h8 rfl (.inl rfl) (args_cons' (ev_bin (Ev.t (ev_bin (Ev.t ev_str) (Ev.t (ev_name rfl)) (op_repS (by omega) (by omega) (by rw [lsp, sizeLine_eq]; omega)))) (Ev.t ev_str) (op_cat (by rw [lsp, sizeLine_eq]; omega))) args_nil') (new_ws (x := spcT sums.length) (by show (repS " " (sums.length : Int) ++ " ").length ≤ _; rw [app_length, lsp]; omega))) args_nil') (fn_less ok.wt ok.wsp (by have := ok.nts; omega)))) (Ev.t ev_bool) cmp_isNotB) fun _ => or_nil)) (fun h => ?_) fun _ => ?_
  · rw [ok.lessTB, ok.lessTS] at h; simp at h
  refine go_if (tr_bool (or_cons (tr_cmp (Ev.t (ev_methF h8 (ev_name rfl) (gm_inst rfl) (args_cons' (ev_name rfl) args_nil') (fn_less ok.w2 ok.w1 (by have := ok.n21; omega)))) (Ev.t ev_bool) cmp_isNotB) fun _ => or_cons (tr_cmp (Ev.t (ev_methF h8 (ev_name rfl) (gm_inst rfl) (args_cons' (ev_name rfl) args_nil') (fn_equal ok.w2 ok.w3))) (Ev.t ev_bool) cmp_isNotB) fun _ => or_nil)) (fun h => ?_) fun _ => ?_
  · rw [ok.less21, ok.eq23] at h; simp at h
  refine go_new (evn_list args_nil') (.inl rfl) fun l1 hl1 => ?_
  refine go_new (evn_list args_nil') (.inl rfl) fun l2 hl2 => ?_
  have l21 : l2 ≠ l1 := fun e => hl2 (.list []) (by rw [e]; exact mu_self)
  have sp := ok.span
  have hlast : (row.map D.int)[((-1 : Int) + (row.map D.int).length).toNat]? = some (.int (row.getLastD 0)) := by
    rw [List.getElem?_map, List.length_map]
    have e : ((-1 : Int) + row.length).toNat = row.length - 1 := by omega
    rw [e, ← List.getLast?_eq_getElem?, List.getLastD_eq_getLast?]
    cases q : row.getLast? with
    | none => rw [List.getLast?_eq_none_iff] at q; rw [q] at rl; simp at rl
    | some x => rfl
  have hhead : (row.map D.int)[(0 : Int).toNat]? = some (.int (row.headD 0)) := by
    cases q : row with
    | nil => rw [q] at rl; simp at rl
    | cons x xs => rfl
  refine go_forN (inj := .int) (xs := zints 1 (spanOf row + 2 - 1).toNat) (ev_range2 hA.hd rfl (Ev.t ev_int) (Ev.t (ev_bin (Ev.t (ev_bin (Ev.t (ev_sub (Ev.t (ev_name rfl)) (Ev.t (ev_neg (Ev.t ev_int))) (ItemD.last (by decide) (by rw [List.length_map]; omega) (by decide) hlast))) (Ev.t (ev_sub (Ev.t (ev_name rfl)) (Ev.t ev_int) (ItemD.list (by decide) (by decide) hhead))) op_sub)) (Ev.t ev_int) op_add)) (by show _ ∧ _ ∧ _ ≤ spanOf row + 2 ∧ spanOf row + 2 ≤ _; omega)) (fun pre => ("uneven", .m l1) :: ("even", .m l2) :: sigD row sums) (fun pre => [(l1, .list ((unevenTo (apart row) (placesOf row) (nearOf row) pre).map dT3)), (l2, .list ((evenTo (apart row) (placesOf row) (nearOf row) pre).map dT3))]) (fun _ => False) ⟨rfl, rfl, rfl, rfl, rfl, rfl, rfl, rfl, rfl, rfl, rfl, rfl, trivial⟩ ⟨mu_skip (Ne.symm l21) mu_self, mu_self, trivial⟩ (fun pre size post hx => ?_) ?_ (fun _ z => z.elim)
  · refine ⟨_, bind_name (.inr ⟨rfl, rfl⟩), fun g' av1 Q' hq => ?_⟩
    have hs := (mem_ints _ _ _).mp (hx ▸ List.mem_append_right pre (List.mem_cons_self) : size ∈ zints 1 (spanOf row + 2 - 1).toNat)
    have hpre : pre.length ≤ 1100 := by
      have := congrArg List.length hx; rw [ints_length] at this; simp at this; omega
    have hpp : (placesOf row).length ≤ 1000000 := pll
    have f1 : ((apart row).filter fun d => d.fmod size == 0).length ≤ 1000000 := Nat.le_trans (List.length_filter_le _ _) apl
    have f2 : ((placesOf row).filter fun d => d.fmod size == 0).length ≤ 1000000 := Nat.le_trans (List.length_filter_le _ _) hpp
    have mb : (moreOf (apart row) (placesOf row) size).natAbs ≤ 1000000 := by unfold moreOf; omega
    have hn := ok.nearOk
    have sb := sum_bound ((nearOf row).map fun run => run.fdiv size + 1) 10001 fun y hy => by
      obtain ⟨r, hr, rfl⟩ := List.mem_map.mp hy
      obtain ⟨r0, r1⟩ := hn.2 r hr
      obtain ⟨d0, d1⟩ := fdiv_le r0 (show 1 ≤ size by omega)
      omega
    rw [List.length_map] at sb
    have sb2 : ((nearOf row).length : Int) * 10001 ≤ 1000 * 10001 := Int.mul_le_mul_of_nonneg_right (by omega) (by decide)
    have cb : (columnOf (nearOf row) size).natAbs ≤ 1100 * 10001000 := natAbs_mul_lt (by omega) (by omega)
    refine go_assign (d := .int (moreOf (apart row) (placesOf row) size)) (ev_bin (Ev.t (ev_len (f := .int) (xs := (apart row).filter fun d => d.fmod size == 0) rfl (Ev.t (ev_comp1 (inj := .int) (σc := [("size", .d (.int size))]) (cl := [("size", L + 1)]) (src_list hA.hd (ev_name rfl)) rfl ⟨⟨rfl, rfl, rfl, rfl⟩, trivial⟩ ⟨rfl, trivial⟩ (by rw [sizeLine_eq]; omega) fun C d hd => ⟨_, bindL_name rfl, ⟨rfl, trivial⟩, fun μ => ifs_one (tr_cmp (Ev.t (ev_bin (Ev.t (ev_name rfl)) (Ev.t (ev_name rfl)) (op_mod (by omega)))) (Ev.t ev_int) cmp_eqI), fun _ μ => ev_name rfl⟩)) f1)) (Ev.t (ev_len (f := .int) (xs := (placesOf row).filter fun d => d.fmod size == 0) rfl (Ev.t (ev_comp1 (inj := .int) (σc := [("size", .d (.int size))]) (cl := [("size", L + 1)]) (src_list hA.hd (ev_name rfl)) rfl ⟨⟨rfl, rfl, rfl, rfl⟩, trivial⟩ ⟨rfl, trivial⟩ (by rw [sizeLine_eq]; omega) fun C d hd => ⟨_, bindL_name rfl, ⟨rfl, trivial⟩, fun μ => ifs_one (tr_cmp (Ev.t (ev_bin (Ev.t (ev_name rfl)) (Ev.t (ev_name rfl)) (op_mod (by omega)))) (Ev.t ev_int) cmp_eqI), fun _ μ => ev_name rfl⟩)) f2)) op_sub) (.inl rfl) ?_
    refine go_assign (d := .int (columnOf (nearOf row) size)) (ev_bin (Ev.t (ev_name rfl)) (Ev.t (ev_callB rfl gl_sum (argsT_cons (Ev.t ?_) argsT_nil) (call_sumL hA.hd (ns := (nearOf row).map fun run => run.fdiv size + 1)))) (op_mul (mulOk (by omega) (by omega)))) (.inl rfl) ?_
    · have e : D.list (((nearOf row).map fun run => run.fdiv size + 1).map .int) = .list ((nearOf row).map fun run => .int (run.fdiv size + 1)) := by simp
      rw [e]
      refine ev_comp1m (inj := .int) (σc := [("size", .d (.int size))]) (cl := [("size", L + 1)]) (src_list hA.hd (ev_name rfl)) rfl ⟨⟨rfl, rfl, rfl, rfl⟩, trivial⟩ ⟨rfl, trivial⟩ (by rw [sizeLine_eq]; omega) fun C r hr => ?_
      exact ⟨_, bindL_name rfl, ⟨rfl, trivial⟩, fun μ => ev_bin (Ev.t (ev_bin (Ev.t (ev_name rfl)) (Ev.t (ev_name rfl)) (op_div (by omega) (noPy (by omega) (by omega))))) (Ev.t ev_int) op_add⟩
    have ul := unevenTo_len (apart row) (placesOf row) (nearOf row) pre
    have el := evenTo_len (apart row) (placesOf row) (nearOf row) pre
    refine go_if (tr_cmp (Ev.t (ev_name rfl)) (Ev.t ev_int) cmp_eqI) (fun h => ?_) fun h => ?_
    · refine go_app (d := dT3 (size, columnOf (nearOf row) size, columnOf (nearOf row) size)) rfl (mu_skip l21 mu_self) (ev_tuple (args_cons' (ev_name rfl) (args_cons' (ev_name rfl) (args_cons' (ev_name rfl) args_nil')))) (by rw [List.length_map, sizeLine_eq]; omega) (hq.go_nil ⟨⟨rfl, rfl, rfl, rfl, rfl, rfl, rfl, rfl, rfl, rfl, rfl, rfl, trivial⟩, ⟨?_, ?_, trivial⟩⟩)
      · rw [unevenTo_snoc, if_pos h, List.append_nil]; exact mu_skip (Ne.symm l21) mu_self
      · rw [mu_self, evenTo_snoc, if_pos h]; simp
    · refine go_app (d := dT3 (size, columnOf (nearOf row) size + size * moreOf (apart row) (placesOf row) size, columnOf (nearOf row) size + 1)) rfl mu_self (ev_tuple (args_cons' (ev_name rfl) (args_cons' (ev_bin (Ev.t (ev_name rfl)) (Ev.t (ev_bin (Ev.t (ev_name rfl)) (Ev.t (ev_name rfl)) (op_mul (mulOk (by omega) (by omega))))) op_add) (args_cons' (ev_bin (Ev.t (ev_name rfl)) (Ev.t ev_int) op_add) args_nil')))) (by rw [List.length_map, sizeLine_eq]; omega) (hq.go_nil ⟨⟨rfl, rfl, rfl, rfl, rfl, rfl, rfl, rfl, rfl, rfl, rfl, rfl, trivial⟩, ⟨?_, ?_, trivial⟩⟩)
      · rw [mu_self, unevenTo_snoc, h]; simp
      · rw [evenTo_snoc, h]; simp only [Bool.false_eq_true, if_false, List.append_nil]; exact mu_skip l21 (mu_skip l21 mu_self)
  · have ul := unevenTo_len (apart row) (placesOf row) (nearOf row) (zints 1 (spanOf row + 2 - 1).toNat)
    have e : D.bool true = .bool (true && true) := rfl
    rw [e]
    refine go_retR (ev_and2 (ev_cmp (Ev.t (ev_name rfl)) (evt_mut rfl mu_self) (cmp_eqE h7 (ok_list 8 _ _ fun t _ => ok_tuple3 7 _ _ _ rfl rfl rfl) (ok_list 8 _ _ fun t _ => ok_tuple3 7 _ _ _ rfl rfl rfl) ?_)) fun _ => ev_cmp (Ev.t (ev_methF h8 (ev_name rfl) (gm_inst rfl) (args_cons' (ev_name rfl) args_nil') (fn_wit ok.w2 ok.w1 (by have := ok.n21; omega)))) (evt_mut rfl (mu_skip l21 mu_self)) (cmp_eqE h7 (ok_list 8 _ _ fun t _ => ok_tuple3 7 _ _ _ rfl rfl rfl) (ok_list 8 _ _ fun t _ => ok_tuple3 7 _ _ _ rfl rfl rfl) ?_))
    · rw [← ok.uneven]; exact ⟨fun _ => rfl, fun _ => rfl⟩
    · rw [ok.even]; exact ⟨fun _ => rfl, fun _ => rfl⟩
end
section

def shelf (x : Str) : Str := sliceT (x ++ "/") none (some (-1))
theorem fn_shelf {w : World} {x : Str} (h1 : x.length ≤ 100000) (h2 : (shelf x).length ≤ 1000000) : Fn w 108 6 [.str x] (.str (shelf x)) := by
  refine fn_enter1 (a := "s") (fun _ => .inl rfl) ?_
  intro A L g av s hA
  refine go_retR (ev_sliceS (lo := none) (hi := some _) (l := none) (u := some (-1)) (Ev.t (ev_bin (Ev.t (ev_name rfl)) (Ev.t ev_str) (op_cat (by show x.length + 1 ≤ _; rw [sizeLine_eq]; omega)))) trivial (Ev.t (ev_neg (Ev.t ev_int))) h2)
/-- a path of one leading slash -/
structure RootOk (p : Str) : Prop where
  len : p.length ≤ 100000
  a : sliceT p none (some 1) = "/"
  b : (sliceT p (some 1) (some 2) == ("/" : Str)) = false
  lb : (sliceT p (some 1) (some 2)).length ≤ 1000000
  c : (sliceT p (some 1) none).length ≤ 100000
set_option maxHeartbeats 1000000 in
theorem fn_splitroot {w : World} {p : Str} (ok : RootOk p) : Fn w 115 6 [.str p] (.tuple [.str "", .str "/", .str (sliceT p (some 1) none)]) := by
  refine fn_enter1 (a := "p") (fun _ => .inl rfl) ?_
  intro A L g av s hA
  have la : (sliceT p none (some 1)).length ≤ 1000000 := by rw [ok.a]; decide
  refine go_assign ev_str (.inl rfl) (go_assign ev_str (.inl rfl) ?_)
  refine go_if (tr_cmp (Ev.t (ev_sliceS (lo := none) (hi := some _) (l := none) (u := some 1) (Ev.t (ev_name rfl)) trivial (Ev.t ev_int) la)) (Ev.t (ev_name rfl)) cmp_neS) (fun h => by rw [ok.a] at h; simp at h) fun _ => ?_
  refine go_if (b := !(sliceT p (some 1) (some 2) == ("/" : Str)) || false) (tr_bool (or_cons (tr_cmp (Ev.t (ev_sliceS (lo := some _) (hi := some _) (l := some 1) (u := some 2) (Ev.t (ev_name rfl)) (Ev.t ev_int) (Ev.t ev_int) ok.lb)) (Ev.t (ev_name rfl)) cmp_neS) fun h => ?_)) (fun h => ?_) fun h => ?_
  · rw [ok.b] at h; cases h
  · exact go_retR (ev_tuple (args_cons' (ev_name rfl) (args_cons' (ev_name rfl) (args_cons' (ev_sliceS (lo := some _) (hi := none) (l := some 1) (u := none) (Ev.t (ev_name rfl)) (Ev.t ev_int) trivial (by have := ok.c; omega)) args_nil'))))
  · rw [ok.b] at h; simp at h

/-- one component -/
def npStep (nc : List Str) (c : Str) : List Str :=
  if ((c.length : Int) == 0) || c == "." then nc
  else if !(c == "..") || (!nc.isEmpty && nc.getLastD "" == "..") then nc ++ [c]
  else if !nc.isEmpty then nc.dropLast else nc
def npTo (cs : List Str) : List Str := cs.foldl npStep []
def npComps (p : Str) : List Str := splitT (sliceT p (some 1) none) "/"
def npText (p : Str) : Str := "/" ++ Txt.join "/" (npTo (npComps p))
def normP (p : Str) : Str := shelf (npText p)
structure NormOk (p : Str) : Prop where
  root : RootOk p
  split : splitOk (sliceT p (some 1) none) "/" = true
  comps : (npComps p).length ≤ 1000 ∧ ∀ c ∈ npComps p, c.length ≤ 1000
  join : JoinOk "/" (npTo (npComps p)) = true
  text : (npText p).length ≤ 90000 ∧ 1 ≤ (Txt.join "/" (npTo (npComps p))).length ∧ (Txt.join "/" (npTo (npComps p))).length ≤ 90000
  last : (normP p).length ≤ 100000
theorem npTo_snoc (pre : List Str) (c : Str) : npTo (pre ++ [c]) = npStep (npTo pre) c := by unfold npTo; rw [List.foldl_append]; rfl
theorem npTo_len : ∀ (cs : List Str), (npTo cs).length ≤ cs.length := by
  have gen : ∀ (cs acc : List Str), (cs.foldl npStep acc).length ≤ acc.length + cs.length := by
    intro cs
    induction cs with
    | nil => intro acc; simp
    | cons c cs ih =>
      intro acc
      have h1 := ih (npStep acc c)
      have h2 : (npStep acc c).length ≤ acc.length + 1 := by
        unfold npStep; split
        · omega
        · split
          · simp
          · split <;> simp <;> omega
      simp only [List.foldl_cons, List.length_cons]; omega
  intro cs; simpa [npTo] using gen cs []
set_option maxHeartbeats 4000000 in
theorem fn_normpath_ {w : World} {p : Str} (ok : NormOk p) : Fn w 122 8 [.str p] (.str (normP p)) := by
  refine fn_enter1 (a := "path") (fun _ => .inl rfl) ?_
  intro A L g av s hA
  have h6 := hA.le (show 6 ≤ 7 by decide)
  have hr := ok.root
  have hpne : ((p.length : Int) != 0) = true := by
    have := hr.a
    cases q : (p.length : Int) != 0 with
    | true => rfl
    | false =>
      have hz : p.length = 0 := by simpa using q
      have : p.cps = #[] := Array.eq_empty_of_size_eq_zero hz
      have e : p = ⟨#[]⟩ := by cases p; simp_all
      rw [e] at hr; exact absurd hr.a (by decide)
  refine go_assign ev_str (.inl rfl) (go_assign ev_str (.inl rfl) (go_assign ev_str (.inl rfl) ?_))
  refine go_if (tr_not (tr_val (Ev.t (ev_name rfl)) (ty_str (by have := hr.len; omega)))) (fun h => by rw [hpne] at h; cases h) fun _ => ?_
  refine go_unpack (ev_callF h6 rfl (.inl rfl) (args_cons' (ev_name rfl) args_nil') (fn_splitroot hr)) (bind_tuple hA.hd (ns := ["_", "initial_slashes", "path"]) (ps := [_, _, _]) rfl rfl rfl (fun n hn => ?_)) ?_
  · simp only [List.mem_cons, List.mem_nil_iff, or_false] at hn
    rcases hn with rfl | rfl | rfl <;> exact .inl rfl
  refine go_assign (d := dLS (npComps p)) (ev_methB (Ev.t (ev_name rfl)) gm_split (argsT_cons (Ev.t (ev_name rfl)) argsT_nil) (call_split ok.split)) (.inl rfl) ?_
  refine go_new (evn_list args_nil') (.inl rfl) fun l hl => ?_
  refine go_forN (inj := D.str) (xs := npComps p) (src_list hA.hd (ev_name rfl)) (fun pre => [("new_comps", .m l), ("sep", .d (.str "/")), ("dot", .d (.str ".")), ("dotdot", .d (.str "..")), ("initial_slashes", .d (.str "/"))]) (fun pre => [(l, .list ((npTo pre).map .str))]) (fun _ => False) ⟨rfl, rfl, rfl, rfl, rfl, trivial⟩ ⟨mu_self, trivial⟩ (fun pre c post hx => ?_) ?_ (fun _ z => z.elim)
  · refine ⟨_, bind_name (.inl rfl), fun g' av1 Q' hq => ?_⟩
    have hcl := ok.comps.2 c (hx ▸ List.mem_append_right pre List.mem_cons_self)
    have hpl : (npTo pre).length ≤ 1000 := by
      have h1 := npTo_len pre
      have h2 := congrArg List.length hx
      have h3 := ok.comps.1
      simp at h2; omega
    have hlz : ((npTo pre).map D.str).length ≤ 1000000 := by rw [List.length_map]; omega
    have same : ∀ {μ1 : Mu} {σ1 : Sg}, npStep (npTo pre) c = npTo pre → SubAll σ1 [("new_comps", .m l), ("sep", .d (.str "/")), ("dot", .d (.str ".")), ("dotdot", .d (.str "..")), ("initial_slashes", .d (.str "/"))] → List.lookup l μ1 = some (.list ((npTo pre).map .str)) → SubAll σ1 [("new_comps", .m l), ("sep", .d (.str "/")), ("dot", .d (.str ".")), ("dotdot", .d (.str "..")), ("initial_slashes", .d (.str "/"))] ∧ MuAll μ1 [(l, .list ((npTo (pre ++ [c])).map .str))] := fun e h1 h2 => ⟨h1, ⟨by rw [npTo_snoc, e]; exact h2, trivial⟩⟩
    have hpic : ∀ {σ1 : Sg}, SubAll (("comp", .d (.str c)) :: [("new_comps", .m l), ("sep", .d (.str "/")), ("dot", .d (.str ".")), ("dotdot", .d (.str "..")), ("initial_slashes", .d (.str "/"))]) [("new_comps", .m l), ("sep", .d (.str "/")), ("dot", .d (.str ".")), ("dotdot", .d (.str "..")), ("initial_slashes", .d (.str "/"))] := ⟨rfl, rfl, rfl, rfl, rfl, trivial⟩
    have hlast : npTo pre ≠ [] → ((npTo pre).map D.str)[((-1 : Int) + ((npTo pre).map D.str).length).toNat]? = some (.str ((npTo pre).getLastD "")) := fun hne => by
      rw [List.getElem?_map, List.length_map]
      have hpos := List.length_pos_iff.mpr hne
      have e : ((-1 : Int) + (npTo pre).length).toNat = (npTo pre).length - 1 := by omega
      rw [e, ← List.getLast?_eq_getElem?, List.getLastD_eq_getLast?]
      cases q : (npTo pre).getLast? with
      | none => rw [List.getLast?_eq_none_iff] at q; exact absurd q hne
      | some x => rfl
    have hie : ((npTo pre).map D.str).isEmpty = (npTo pre).isEmpty := by cases npTo pre <;> rfl
    have hnz : (!((("/" : Str).length : Int) != 0)) = false := rfl
    refine go_if (tr_bool (or_cons (tr_not (tr_val (Ev.t (ev_name rfl)) (ty_str (by omega)))) fun _ => or_cons (tr_cmp (Ev.t (ev_name rfl)) (Ev.t (ev_name rfl)) cmp_eqS) fun _ => or_nil)) (fun h => ?_) fun h1 => ?_
    · refine hq.go_cont (same ?_ (hpic (σ1 := [])) mu_self)
      unfold npStep; rw [if_pos (by simpa using h)]
    have c1 : (((c.length : Int) == 0) || c == ".") = false := by simpa using h1
    refine go_if (tr_bool (or_cons (tr_cmp (Ev.t (ev_name rfl)) (Ev.t (ev_name rfl)) cmp_neS) fun _ => or_cons (tr_bool (and_cons (b := false) (tr_not (tr_val (Ev.t (ev_name rfl)) (ty_str (by decide)))) fun h => by rw [hnz] at h; cases h)) fun _ => or_cons (tr_bool (and_cons (tr_val (evt_mut rfl mu_self) (ty_list (by rw [sizeLine_eq]; omega))) fun hne => and_cons (tr_cmp (Ev.t (ev_sub (evt_mut rfl mu_self) (Ev.t (ev_neg (Ev.t ev_int))) (ItemD.last (by decide) ?_ (by decide) (hlast ?_)))) (Ev.t (ev_name rfl)) cmp_eqS) fun _ => and_nil)) fun _ => or_nil)) (fun h => ?_) fun h2 => ?_
    · have hne' : npTo pre ≠ [] := by intro e; rw [e] at hne; cases hne
      have := List.length_pos_iff.mpr hne'
      rw [List.length_map]; omega
    · intro e; rw [e] at hne; cases hne
    · have c2 : (!(c == "..") || (!(npTo pre).isEmpty && (npTo pre).getLastD "" == "..")) = true := by
        rw [hnz, hie] at h; simpa using h
      refine go_app rfl mu_self (ev_name rfl) (by rw [sizeLine_eq]; omega) (hq.go_nil ⟨⟨rfl, rfl, rfl, rfl, rfl, trivial⟩, ⟨?_, trivial⟩⟩)
      have e : npStep (npTo pre) c = npTo pre ++ [c] := by unfold npStep; rw [c1, if_neg (by decide), if_pos c2]
      rw [mu_self, npTo_snoc, e]; simp
    · have c2 : (!(c == "..") || (!(npTo pre).isEmpty && (npTo pre).getLastD "" == "..")) = false := by
        rw [hnz, hie] at h2; simpa using h2
      refine go_if (tr_val (evt_mut rfl mu_self) (ty_list (by rw [sizeLine_eq]; omega))) (fun h3 => ?_) fun h3 => ?_
      · rw [hie] at h3
        have hne' : npTo pre ≠ [] := by intro e; rw [e] at h3; cases h3
        have hpos := List.length_pos_iff.mpr hne'
        have e : npStep (npTo pre) c = (npTo pre).dropLast := by unfold npStep; rw [c1, if_neg (by decide), c2, if_neg (by decide), if_pos h3]
        have hl1 := hlast hne'
        have hix : ((-1 : Int) + ((npTo pre).map D.str).length).toNat = ((npTo pre).map D.str).length - 1 := by rw [List.length_map]; omega
        rw [hix] at hl1
        refine go_pop rfl mu_self hl1 hlz (hq.go_nil ⟨⟨rfl, rfl, rfl, rfl, rfl, trivial⟩, ⟨?_, trivial⟩⟩)
        rw [mu_self, npTo_snoc, e, List.map_dropLast]
      · rw [hie] at h3
        refine hq.go_nil (same ?_ (hpic (σ1 := [])) mu_self)
        unfold npStep; rw [c1, if_neg (by decide), c2, if_neg (by decide), h3]; rfl
  · refine go_freeze (n := "new_comps") (μ' := []) rfl mu_self (fun a mo q => by simp at q) ?_
    refine go_assign (ev_name rfl) (.inl rfl) ?_
    have ht := ok.text
    refine go_assign (d := .str (npText p)) (ev_bin (Ev.t (ev_name rfl)) (Ev.t (ev_methB (Ev.t (ev_name rfl)) gm_join (argsT_cons (Ev.t (ev_name rfl)) argsT_nil) (call_join ok.join))) (op_cat (by show 1 + _ ≤ _; rw [sizeLine_eq]; omega))) (.inl rfl) ?_
    have hne : ((npText p).length : Int) != 0 := by
      have : (npText p).length = 1 + (Txt.join "/" (npTo (npComps p))).length := app_length _ _
      simp; omega
    refine go_if (tr_not (tr_val (Ev.t (ev_name rfl)) (ty_str (by omega)))) (fun h => by rw [hne] at h; cases h) fun _ => ?_
    exact go_retR (ev_callF h6 rfl (.inl rfl) (args_cons' (ev_name rfl) args_nil') (fn_shelf (by omega) (by have := ok.last; exact Nat.le_trans this (by decide))))
end
section
section
variable {w : World} {A : Around}
theorem call_typeS {x : Str} : CallD w A (.type "type") [.str x] (.ty "str") := ⟨fun av s h tk vs Q E B dom a k => by
  obtain ⟨v, rfl, y⟩ := a.one
  obtain ⟨t, rfl⟩ := y.str
  exact call_type_of (s := upd s h tk) (typeIs_str _ x t) (by decide) (k _ h tk (Ext.refl h) (.ty _))⟩
theorem AtT.tyv {av : AV} {h : Heap} {v : Value} {n : String} (x : AtT av h v (.ty n)) : v = .type n := by
  rcases x with x | ⟨a, vs, ds', n, e1, e2, e3, e4⟩
  · cases x; rfl
  · cases e2
theorem cmp_isTy {n : String} : CmpD w A .Is (.ty n) (.ty n) true := ⟨fun av s h tk u v Q E dm x y k => by
  have := x.tyv; subst this; have := y.tyv; subst this
  show wpAny _ A (do return .bool (← isSame (.type n) (.type n))) Q E _
  have e : isSame (.type n) (.type n) = pure true := by unfold isSame; simp
  rw [e]; exact wpAny_bind (wpAny_pure (wpAny_pure (k h tk (Ext.refl h))))⟩
theorem ev_glob {env : Env} {σ : Sg} {μ : Mu} {n : Str} {p : Pos} {v : Value} {d : D} (hk : env.kindOf n = some .globalImplicit) (hv : IsGlob w n v) (hd : ∀ av h, At av h v d) (hn : (n == ("__debug__" : Str)) = false := by decide) : Ev w A env σ μ (.Name n p) d := ⟨fun g av s h tk Q E st k =>
  ld_glob st hk hv (k v h tk (Ext.refl h) (hd av h)) hn⟩
theorem gl_type : IsGlob w "type" (.type "type") := .inr ⟨rfl, by decide, rfl⟩
theorem gl_str : IsGlob w "str" (.type "str") := .inr ⟨rfl, by decide, rfl⟩
theorem fn_kind {x y : Str} : Fn w 94 6 [.str y, .str x] (.str "") := by
  refine fn_enter2 (a := "name") (b := "x") (by decide) (fun _ => .inl rfl) (fun _ => .inl rfl) ?_
  intro A L g av s hA
  refine go_assign (ev_callB rfl gl_type (argsT_cons (Ev.t (ev_name rfl)) argsT_nil) call_typeS) (.inl rfl) ?_
  refine go_if (tr_cmp (Ev.t (ev_name rfl)) (Ev.t (ev_glob rfl gl_str fun _ _ => .ty _)) cmp_isTy) (fun _ => go_retR ev_str) fun h => by cases h
/-- an empty dict -/
def Empty0 : D := .leaf fun a o => o = dctO [] 0 ∧ (a == sysModules) = false
/-- truth of an empty dict that is not the modules' -/
theorem tr_empty {env : Env} {σ : Sg} {μ : Mu} {e : Expr} (he : Ev w A env σ μ e Empty0) (ht : ∀ env whole, isTrue e env whole = (do let v ← whole; standAt e.pos; holding [v] (truthy v)) := by intros; rfl) : Tr w A env σ μ e false := ⟨fun g av s h tk Q E st k =>
  wpAny_isTrue_value (he.run g av s h tk _ E st fun v h1 tk1 e1 a1 => by
    cases a1 with
    | @leaf a o P hn ho hp =>
      obtain ⟨rfl, hd⟩ := hp
      exact wpAny_truthy_dict (s := upd s h1 tk1) (knd := strKind P0 w) (kvs := []) hd ⟨_, #[], 0, ho, ⟨rfl, rfl, rfl⟩, rfl, fun e he => by simp at he, .nil, by simp⟩ (by decide) (k h1 (tk1 + 1 + 1) e1)) (ht _ _)⟩
set_option maxHeartbeats 1000000 in
theorem fn_cpath {x n1 n2 n3 : Str} : Fn w 101 8 [.str n1, .str n2, .str n3, .tuple [.str x], Empty0] (.str x) := by
  refine fn_enter (ns := ["name", "cname", "argname", "args", "kwargs"]) (n := 7) rfl rfl rfl rfl (fun vs hv => ?_) rfl (by decide) ?_ rfl rfl rfl rfl rfl ?_
  · match vs, hv with
    | [a, b, c, d, e], _ => rfl
  · intro k y hy
    left
    simp only [List.mem_cons, List.mem_nil_iff, or_false] at hy
    rcases hy with rfl | rfl | rfl | rfl | rfl <;> rfl
  intro A L g av s hA
  refine go_if (tr_bool (and_cons (tr_cmp (Ev.t (ev_callB rfl gl_len (argsT_cons (Ev.t (ev_name rfl)) argsT_nil) (call_lenT (ds := [.str x]) (by rw [sizeLine_eq]; simp)))) (Ev.t ev_int) cmp_eqI) fun _ => and_cons (tr_not (tr_empty (ev_name rfl))) fun _ => and_nil)) (fun _ => ?_) fun h => by simp at h
  refine go_assign (ev_sub (Ev.t (ev_name rfl)) (Ev.t ev_int) (ItemD.tuple (j := 0) (d := .str x) (by decide) (by decide) rfl rfl)) (.inl rfl) ?_
  refine go_assign (ev_callF (hA.le (by decide)) rfl (.inl rfl) (args_cons' (ev_name rfl) (args_cons' (ev_name rfl) args_nil')) fn_kind) (.inl rfl) ?_
  refine go_if (tr_val (Ev.t (ev_name rfl)) (ty_str (x := "") (by decide))) (fun h => by cases h) fun _ => ?_
  exact go_retR (ev_name rfl)
end
end
section
set_option maxHeartbeats 2000000 in
theorem fn_normpath {w : World} {p : Str} (ok : NormOk p) : Fn w 129 11 [.str p] (.str (normP p)) := by
  refine ⟨fun A av s h tk vs Q E hA B dom ats k => wpAny_call ?_⟩
  cases ats with
  | cons hv hs => cases hs; cases hv with
    | str _ t =>
      have e1 : Ext h (h.push (tupO [.str p t] 0)) := Ext.push _ _
      have e2 : Ext (h.push (tupO [.str p t] 0)) ((h.push (tupO [.str p t] 0)).push (dctO [] 0)) := Ext.push _ _
      have n1 : h.get? h.objs.size = none := not_here h
      have n2 : h.get? (h.push (tupO [.str p t] 0)).objs.size = none := not_before e1 (not_here _)
      have nav : ∀ {a}, h.get? a = none → ¬ av a := fun q r => by obtain ⟨o, ho⟩ := dom _ r; rw [ho] at q; cases q
      have g1 : ((h.push (tupO [.str p t] 0)).push (dctO [] 0)).get? h.objs.size = some (tupO [.str p t] 0) := e2 _ _ (Heap.get?_push_size _ rfl)
      have g2 : ((h.push (tupO [.str p t] 0)).push (dctO [] 0)).get? (h.push (tupO [.str p t] 0)).objs.size = some (dctO [] 0) := Heap.get?_push_size _ rfl
      have big := (B.ext e1).big
      have hsm : ((h.push (tupO [.str p t] 0)).objs.size == sysModules) = false := by
        have : (h.push (tupO [.str p t] 0)).objs.size ≠ sysModules := Nat.ne_of_gt (Nat.lt_trans (by decide) big)
        simpa using this
      have ne12 : h.objs.size ≠ (h.push (tupO [.str p t] 0)).objs.size := by rw [Heap.size_push]; exact Nat.ne_of_lt (Nat.lt_succ_self _)
      refine enterC (n := 10) (g := h) (h := (h.push (tupO [.str p t] 0)).push (dctO [] 0)) (tk := tk) (av := av) (binds := [("args", .ref h.objs.size), ("kwargs", .ref (h.push (tupO [.str p t] 0)).objs.size)]) (σ := [("args", .d (.tuple [.str p])), ("kwargs", .d Empty0)]) (μ := []) hA B B (e1.trans e2) (e1.trans e2)
        (fun Q E q => ?_) (by simp; decide) (fun x hx => ?_) (fun x sv q => ?_) (fun a q => ?_) (fun a mo q => by simp at q) (fun L av' h₁ tk₁ up lim st => ?_)
      · show wpAny (model P0 w) A.in1 (newTuple [.str p t] >>= fun v => alloc { cls := .type "dict", data := .dict #[] } >>= fun d => pure [(("args" : Str), v), (("kwargs" : Str), .ref d)]) Q E (upd s h tk)
        simp only [newTuple]
        exact wpAny_bind (wpAny_newObj_type (wpAny_bind (wpAny_alloc (wpAny_pure q))) (by size_fits))
      · simp only [List.mem_cons, List.mem_nil_iff, or_false] at hx
        rcases hx with rfl | rfl <;> exact fun _ => .inl rfl
      · by_cases hx : x = "args"
        · subst hx
          rw [lookup_cons_eq] at q; cases q
          exact ⟨_, .head _, .tuple (nav n1) g1 (.cons (.str _ _) .nil)⟩
        · rw [lookup_cons_ne hx] at q
          by_cases hy : x = "kwargs"
          · subst hy
            rw [lookup_cons_eq] at q; cases q
            exact ⟨_, .tail _ (.head _), .leaf (nav n2) g2 ⟨rfl, hsm⟩⟩
          · rw [lookup_cons_ne hy] at q; simp at q
      · obtain ⟨o, ho⟩ := dom a q; exact ⟨o, e2 _ _ (e1 _ _ ho)⟩
      · exact (go_ret (av₀ := av) (ev_callF ((hA.deeper _).le (by decide)) rfl (.inl rfl) (args_cons' (ev_callF ((hA.deeper _).le (by decide)) rfl (.inl rfl) (args_cons' ev_str (args_cons' ev_str (args_cons' ev_str (args_cons' (ev_name rfl) (args_cons' (ev_name rfl) args_nil'))))) fn_cpath) args_nil') (fn_normpath_ ok)) fun v h' tk' e a => k v h' tk' e a).run av' h₁ tk₁ up (fun a mo q => by simp at q) st
end
section
abbrev igF (w : World) (m : Option Str) (dirs : List Str) (di : Addr) : List (Str × D) := [("_mods", .leaf (fun _ => SetP w m)), ("_dirs", dLS dirs), ("_ignore", .ptr di)]
set_option maxHeartbeats 2000000 in
theorem new_ignore0 {w : World} {m : Str} : FnI w 152 15 [.list [.str m]] 152 (igF w (some m) []) [("<string>", 1)] := by
  refine fn_newT (n := 13) (self := "self") (ps := ["modules", "dirs"]) (ex := [.none]) (dex := [.none]) (fun _ _ => .cons .none .nil) rfl (by decide) (fun y hy => ?_) (fun y vs hv A s Q E X k => ?_) ?_
  · simp only [List.mem_cons, List.mem_nil_iff, or_false] at hy
    rcases hy with rfl | rfl | rfl <;> exact fun _ => .inl rfl
  · obtain ⟨v, rfl⟩ := List.length_eq_one_iff.mp hv
    have hT : (KK w).lookup 137 = some (tupO [.none, .none] 0) := by rfl
    exact BindsTo.of_defaults (T := 137) (o := tupO [.none, .none] 0) (items := #[.none, .none]) (n := 0) rfl (X _ _ hT) rfl rfl rfl _ _ _ _ k
  intro A L g av s X DX Q hA hne hQ
  have hnx : DX ≠ X := fun e => hne e.symm
  refine go_setattr (d := .leaf (fun _ => SetP w (some m))) (ev_ifexp (c := !(![D.str m].isEmpty)) (tr_not (tr_val (Ev.t (ev_name rfl)) (ty_list (ds := [.str m]) (by rw [sizeLine_eq]; simp)))) (fun h => by cases h) fun _ => ev_callB rfl gl_set (argsT_cons (Ev.t (ev_name rfl)) argsT_nil) (call_setL hA.hd)) rfl mu_self (mu_skip hnx mu_self) (Nat.le_of_ble_eq_true rfl) ?_
  refine go_setattr (d := dLS []) (ev_ifexp (c := !false) (tr_not (tr_val (Ev.t (ev_name rfl)) ty_none)) (fun _ => ev_list (ds := []) args_nil') (fun h => by cases h)) rfl (mu_skip hne mu_self) mu_self (Nat.le_of_ble_eq_true rfl) ?_
  refine go_setattr_tab dict_one rfl (mu_skip hne (mu_skip hne mu_self)) mu_self (Nat.le_of_ble_eq_true rfl) fun di hdi => ?_
  have n1 : di ≠ X := fun e => hdi (.inst 152 DX) (by rw [e]; exact mu_skip hne (mu_skip hne mu_self))
  have n2 : di ≠ DX := fun e => hdi _ (by rw [e]; exact mu_self)
  refine hQ.go (di := di) (mu_skip hne (mu_skip (Ne.symm n1) (mu_skip hne (mu_skip hne mu_self)))) ?_ (mu_skip n2 mu_self) n1 n2
  rw [mu_self]; rfl
set_option maxHeartbeats 2000000 in
theorem new_ignore1 {w : World} {d : Str} (ok : NormOk d) : FnI w 152 15 [.none, .list [.str d]] 152 (igF w none [normP d]) [("<string>", 1)] := by
  refine fn_newT (n := 13) (self := "self") (ps := ["modules", "dirs"]) (ex := []) (dex := []) (fun _ _ => .nil) rfl (by decide) (fun y hy => ?_) (fun y vs hv A s Q E X k => ?_) ?_
  · simp only [List.mem_cons, List.mem_nil_iff, or_false] at hy
    rcases hy with rfl | rfl | rfl <;> exact fun _ => .inl rfl
  · match vs, hv with
    | [v, u], _ =>
      have hT : (KK w).lookup 137 = some (tupO [.none, .none] 0) := by rfl
      exact BindsTo.of_defaults (T := 137) (o := tupO [.none, .none] 0) (items := #[.none, .none]) (n := 0) rfl (X _ _ hT) rfl rfl rfl _ _ _ _ k
  intro A L g av s X DX Q hA hne hQ
  have hnx : DX ≠ X := fun e => hne e.symm
  refine go_setattr (d := .leaf (fun _ => SetP w none)) (ev_ifexp (c := !false) (tr_not (tr_val (Ev.t (ev_name rfl)) ty_none)) (fun _ => ev_set0 rfl) (fun h => by cases h)) rfl mu_self (mu_skip hnx mu_self) (Nat.le_of_ble_eq_true rfl) ?_
  refine go_setattr (d := dLS [normP d]) (ev_ifexp (c := !(![D.str d].isEmpty)) (tr_not (tr_val (Ev.t (ev_name rfl)) (ty_list (ds := [.str d]) (by rw [sizeLine_eq]; simp)))) (fun h => by cases h) fun _ => ?_) rfl (mu_skip hne mu_self) mu_self (Nat.le_of_ble_eq_true rfl) ?_
  · have e1 : dLS [normP d] = .list [D.str (normP d)] := by simp
    have e2 : [D.str (normP d)] = [d].map (fun _ => D.str (normP d)) := by simp
    rw [e1, e2]
    refine ev_comp1m (inj := D.str) (xs := [d]) (f := fun _ => D.str (normP d)) (σc := []) (cl := []) (src_list hA.hd (ev_name rfl)) rfl trivial trivial (by rw [sizeLine_eq]; simp) fun C x hx => ?_
    cases List.mem_singleton.mp hx
    exact ⟨_, bindL_name rfl, trivial, fun μ => ev_callF (hA.le (by decide)) rfl (.inl rfl) (args_cons' (ev_name rfl) args_nil') (fn_normpath ok)⟩
  refine go_setattr_tab dict_one rfl (mu_skip hne (mu_skip hne mu_self)) mu_self (Nat.le_of_ble_eq_true rfl) fun di hdi => ?_
  have n1 : di ≠ X := fun e => hdi (.inst 152 DX) (by rw [e]; exact mu_skip hne (mu_skip hne mu_self))
  have n2 : di ≠ DX := fun e => hdi _ (by rw [e]; exact mu_self)
  refine hQ.go (di := di) (mu_skip hne (mu_skip (Ne.symm n1) (mu_skip hne (mu_skip hne mu_self)))) ?_ (mu_skip n2 mu_self) n1 n2
  rw [mu_self]; rfl
end
section
/-- what a loop's body may end with, its state kept at a return -/
structure LoopR (w : World) (env : Env) (g : Heap) (av : AV) (s : Shared) (Jn : Sg → Mu → Prop) (Jr : Sg → Mu → D → Prop) (Q : Flow → Shared → Prop) : Prop where
  next : ∀ σ μ, Jn σ μ → ∀ av' h tk, (∀ a, av a → av' a) → OffMu av μ → S w g env av' h σ μ → Q .next (upd s h tk)
  cont : ∀ σ μ, Jn σ μ → ∀ av' h tk, (∀ a, av a → av' a) → OffMu av μ → S w g env av' h σ μ → Q .cont (upd s h tk)
  ret : ∀ σ μ r, Jr σ μ r → ∀ av' h tk v, (∀ a, av a → av' a) → OffMu av μ → S w g env av' h σ μ → At av' h v r → Q (.ret v) (upd s h tk)
section
variable {w : World} {A : Around} {env : Env} {σ : Sg} {μ : Mu} {g : Heap} {av₀ : AV} {s : Shared} {Q : Flow → Shared → Prop} {rest : List Stmt}
theorem go_forR {tup : Bool} {target iter : Expr} {items : List D} {body : List Stmt} {pos : Pos} (hsrc : Src tup w A env σ μ iter items) (htg : tup = true → ∃ es k p, target = .Tuple es k p)
    (J : Nat → Sg → Mu → Prop) (Jr : Sg → Mu → D → Prop) (h0 : J 0 σ μ)
    (turn : ∀ i d σi μi, items[i]? = some d → J i σi μi → ∃ σ1, Bind w A env σi target d σ1 ∧ ∀ g' av1 Q', LoopR w env g' av1 s (J (i + 1)) Jr Q' → Go w A env g' av1 s Q' σ1 μi body)
    (after : ∀ σn μn, J items.length σn μn → Go w A env g av₀ s Q σn μn rest)
    (hret : ∀ σ μ r, Jr σ μ r → ∀ av' h' tk' v, (∀ a, av₀ a → av' a) → OffMu av₀ μ → S w g env av' h' σ μ → At av' h' v r → Q (.ret v) (upd s h' tk'))
    (hs : ∀ x, foldedSetIterable iter env x = pure x := by intro _; rfl) : Go w A env g av₀ s Q σ μ (.For target iter body [] pos :: rest) := by
  refine ⟨fun av h tk up om st => wpAny_execs_cons (wpAny_For (hsrc.run g av s h tk _ _ st fun I wr h2 tk2 mk e0 hwr => ?_) hs)⟩
  obtain ⟨av', hav⟩ : ∃ av' : AV, ∀ a, av' a ↔ (av a ∨ a ∈ wr ∨ h2.get? a = none) := ⟨_, fun a => Iff.rfl⟩
  obtain ⟨St, it, st0⟩ := mk av' (fun a q => (hav a).mpr (.inl q)) (fun a q => (hav a).mpr (.inr (.inl q))) (fun a q => (hav a).mp q)
  have wrav : ∀ a ∈ wr, ¬ av a := fun a q r => by obtain ⟨o, ho⟩ := st.dom a r; rw [(hwr a q).1] at ho; cases ho
  have wrg : ∀ a ∈ wr, g.get? a = none := fun a q => by
    cases r : g.get? a with
    | none => rfl
    | some o => have := st.ext _ _ r; rw [(hwr a q).1] at this; cases this
  -- wr against the frame's own
  have wrOwn : ∀ {μi : Mu}, (∀ a ∈ wr, ∀ mo, μi.lookup a ≠ some mo) → ∀ a, Own env μi a → a ∉ wr := fun hm a q m => by
    rcases q with q | ⟨y, q⟩ | ⟨mo, q⟩
    · exact wrav a m (q ▸ st.ownL.1)
    · exact wrav a m (st.ownC y a q).1
    · exact hm a m mo q
  have S0 : S w g env (fun a => av a ∨ a ∈ wr) h2 σ μ := st.live e0 (fun a q => .inl q) (fun a q => q.imp id fun q => (hwr a q).1) (fun a q => by
    rcases q with q | q
    · obtain ⟨o, ho⟩ := st.dom a q; exact ⟨o, e0 _ _ ho⟩
    · exact (hwr a q).2)
  refine codeAny_forLoop_any (fun n s' => ∃ hi tki i avi σi μi, s' = upd s hi tki ∧ n = items.length - i ∧ i ≤ items.length ∧ St i hi ∧ S w g env avi hi σi μi ∧ (∀ a, avi a → av' a) ∧ (∀ a ∈ wr, avi a) ∧ (∀ a, av₀ a → avi a) ∧ OffMu av₀ μi ∧
      (∀ a ∈ wr, ∀ mo, μi.lookup a ≠ some mo) ∧ J i σi μi ∧ ∀ a, hi.get? a = none → av' a) ?_ items.length
    ⟨h2, tk2, 0, _, σ, μ, rfl, by simp, Nat.zero_le _, st0, S0, fun a q => (hav a).mpr (q.elim .inl fun q => .inr (.inl q)), fun a q => .inr q, fun a q => .inl (up a q), om, fun a q mo r => wrav a q (st.mu a mo r).2.1, h0, fun a q => (hav a).mpr (.inr (.inr q))⟩
  rintro n s' ⟨hi, tki, i, avi, σi, μi, rfl, rfl, hle, sti, Si, iav, iwr, iup, iom, iwm, ij, ial⟩
  by_cases hlt : i < items.length
  · obtain ⟨d, hd⟩ : ∃ d, items[i]? = some d := ⟨items[i], by simp [hlt]⟩
    obtain ⟨σ1, hb, hbody⟩ := turn i d σi μi hd ij
    obtain ⟨QB, hQB⟩ : ∃ QB : Flow → Shared → Prop, QB = fun f s₃ => match f with
            | .next | .cont => ∃ m, m < items.length - i ∧ (∃ hi tki i avi σi μi, s₃ = upd s hi tki ∧ m = items.length - i ∧ i ≤ items.length ∧ St i hi ∧ S w g env avi hi σi μi ∧ (∀ a, avi a → av' a) ∧ (∀ a ∈ wr, avi a) ∧ (∀ a, av₀ a → avi a) ∧ OffMu av₀ μi ∧
              (∀ a ∈ wr, ∀ mo, μi.lookup a ≠ some mo) ∧ J i σi μi ∧ ∀ a, hi.get? a = none → av' a)
            | .brk => False
            | .ret v => Q (.ret v) s₃ := ⟨_, rfl⟩
    refine wpAny_mono (it.next target i d s hi tki (fun v s2 => wpAny (model P0 w) A (assign target env v) (fun _ s₂ => wpAny (model P0 w) A (execs body env) QB (fun _ _ => False) s₂) (fun _ _ => False) s2) (fun _ _ => False) htg avi iav iwr sti hd Si.dom ?_) ?_ fun _ _ x => x.elim
    · intro v h' tk' st' kb' a'
      have Sk : S w g env avi h' σi μi := by
        refine Si.go2 (fun b o q => kb' b o (fun m => by rw [wrg b m] at q; cases q) (Si.ext b o q)) (fun a o n q => ⟨n, kb' a o (fun m => n (iwr a m)) q⟩) Si.ownL.1 (fun y c q => (Si.ownC y c q).1) (fun a mo q => (Si.mu a mo q).2.1) (fun a q => ?_) (fun a o q r => kb' a o (wrOwn iwm a q) r)
        by_cases m : a ∈ wr
        · exact it.alive _ _ st' a m
        · obtain ⟨o, ho⟩ := Si.dom a q; exact ⟨o, kb' a o m ho⟩
      have al' : ∀ a, h'.get? a = none → av' a := fun a q => by
        by_cases m : a ∈ wr
        · obtain ⟨o, ho⟩ := it.alive _ _ st' a m; rw [ho] at q; cases q
        · refine ial a ?_
          cases r : hi.get? a with
          | none => rfl
          | some o => rw [kb' a o m r] at q; cases q
      obtain ⟨g', Sg', eg, keep⟩ := Sk.rebase'
      have nown : ∀ a, (a ∈ wr ∨ ¬ av' a) → ¬ Own env μi a := fun a q r => q.elim (fun q => wrOwn iwm a r q) fun q => q (iav a (Sk.own_none r).2)
      -- what holds at the turn's end
      have fin : ∀ {σ' μ' avx hx}, (∀ a, (av₀ a ∨ a ∈ wr) → avx a) → S w g' env avx hx σ' μ' →
          St (i + 1) hx ∧ S w g env (fun a => avx a ∧ av' a) hx σ' μ' ∧ (∀ a, hx.get? a = none → av' a) := fun {σ' μ' avx hx} ux Sx => by
        refine ⟨it.frame _ _ _ st' fun a o q r => Sx.ext _ _ (keep a o (nown a q) r), ?_, fun a q => ?_⟩
        · refine (Sx.unbase Si.base eg).less (fun a q => q.1) ⟨Sx.ownL.1, iav _ Si.ownL.1⟩ (fun y c q => ⟨(Sx.ownC y c q).1, iav _ (Si.ownC y c q).1⟩) (fun a mo q => ⟨(Sx.mu a mo q).2.1, ?_⟩)
          by_cases m : Own env μi a
          · exact iav a (Sk.own_none m).2
          · refine al' a ?_
            cases r : h'.get? a with
            | none => rfl
            | some o => have := (Sx.mu a mo q).2.2.1; rw [keep a o m r] at this; cases this
        · by_cases m : Own env μi a
          · exact iav a (Sk.own_none m).2
          · refine al' a ?_
            cases r : h'.get? a with
            | none => rfl
            | some o => have := Sx.ext _ _ (keep a o m r); rw [q] at this; cases this
      have upAv : ∀ a, (av₀ a ∨ a ∈ wr) → av' a := fun a q => (hav a).mpr (q.elim (fun q => .inl (up a q)) fun q => .inr (.inl q))
      have goOn : ∀ σ' μ', J (i + 1) σ' μ' → ∀ avx hx tkx, (∀ a, (av₀ a ∨ a ∈ wr) → avx a) → OffMu (fun a => av₀ a ∨ a ∈ wr) μ' → S w g' env avx hx σ' μ' → QB .next (upd s hx tkx) ∧ QB .cont (upd s hx tkx) := fun σ' μ' j avx hx tkx ux ox Sx => by
        obtain ⟨f1, f2, f3⟩ := fin ux Sx
        subst hQB
        have : ∃ m, m < items.length - i ∧ (∃ hi tki i avi σi μi, upd s hx tkx = upd s hi tki ∧ m = items.length - i ∧ i ≤ items.length ∧ St i hi ∧ S w g env avi hi σi μi ∧ (∀ a, avi a → av' a) ∧ (∀ a ∈ wr, avi a) ∧ (∀ a, av₀ a → avi a) ∧ OffMu av₀ μi ∧
              (∀ a ∈ wr, ∀ mo, μi.lookup a ≠ some mo) ∧ J i σi μi ∧ ∀ a, hi.get? a = none → av' a) :=
          ⟨items.length - (i + 1), by omega, hx, tkx, i + 1, _, σ', μ', rfl, rfl, hlt, f1, f2, fun a q => q.2, fun a q => ⟨ux a (.inr q), upAv a (.inr q)⟩, fun a q => ⟨ux a (.inl q), upAv a (.inl q)⟩, fun a mo q r => ox a mo q (.inl r), fun a q mo r => ox a mo r (.inr q), j, f3⟩
        exact ⟨this, this⟩
      refine hb.run g' avi μi s h' tk' v _ _ Sg' a' fun h3 tk3 S3 => ?_
      refine (hbody g' (fun a => av₀ a ∨ a ∈ wr) QB ⟨fun σ' μ' j avx hx tkx ux ox Sx => (goOn σ' μ' j avx hx tkx ux ox Sx).1, fun σ' μ' j avx hx tkx ux ox Sx => (goOn σ' μ' j avx hx tkx ux ox Sx).2, fun σ' μ' r j avx hx tkx v' ux ox Sx ax => ?_⟩).run avi h3 tk3 (fun a q => q.elim (iup a) (iwr a)) (fun a mo q r => r.elim (iom a mo q) fun r => iwm a r mo q) S3
      obtain ⟨f1, f2, f3⟩ := fin ux Sx
      subst hQB
      exact hret σ' μ' r j _ hx tkx v' (fun a q => ⟨ux a (.inl q), upAv a (.inl q)⟩) (fun a mo q r => ox a mo q (.inl r)) f2 (ax.less fun a q => q.1)
    · rintro r s1 ⟨v, rfl, hv⟩
      refine wpAny_mono hv (fun _ s2 h2' => wpAny_mono h2' (fun _ s3 h3 => wpAny_mono h3 (fun f s4 h4 => ?_) fun _ _ z => z.elim) fun _ _ z => z.elim) fun _ _ z => z.elim
      subst hQB
      cases f with
      | next => exact h4
      | cont => exact h4
      | brk => exact (show False from h4).elim
      | ret v => exact h4
  · have hin : i = items.length := by omega
    subst hin
    refine wpAny_mono (it.done s hi tki (fun s1 => wpAny (model P0 w) A (execs rest env) Q (fun _ _ => False) s1) (fun _ _ => False) sti fun h3 tk3 kb => ?_) (fun r s1 hr => ?_) fun _ _ x => x.elim
    · refine (after σi μi ij).run (fun a => avi a ∧ a ∉ wr) h3 tk3 (fun a q => ⟨iup a q, fun m => wrav a m (up a q)⟩) iom ?_
      refine Si.go2 (fun b o q => kb b o (fun m => by rw [wrg b m] at q; cases q) (Si.ext b o q)) (fun a o n q => ⟨fun x => n x.1, kb a o (fun m => n (iwr a m)) q⟩) ⟨Si.ownL.1, wrOwn iwm _ (.inl rfl)⟩ (fun y c q => ⟨(Si.ownC y c q).1, wrOwn iwm _ (.inr (.inl ⟨y, q⟩))⟩) (fun a mo q => ⟨(Si.mu a mo q).2.1, wrOwn iwm _ (.inr (.inr ⟨mo, q⟩))⟩) (fun a q => ?_) (fun a o q r => kb a o (wrOwn iwm a q) r)
      obtain ⟨o, ho⟩ := Si.dom a q.1; exact ⟨o, kb a o q.2 ho⟩
    · obtain ⟨rfl, hr⟩ := hr
      exact wpAny_execs_nil hr

theorem LoopR.go_nil {Jn : Sg → Mu → Prop} {Jr : Sg → Mu → D → Prop} (hq : LoopR w env g av₀ s Jn Jr Q) (hj : Jn σ μ) : Go w A env g av₀ s Q σ μ [] := KL.go_nil (hq.next _ _ hj)
theorem LoopR.go_ret {Jn : Sg → Mu → Prop} {Jr : Sg → Mu → D → Prop} {pos : Pos} {e : Expr} {d : D} (hq : LoopR w env g av₀ s Jn Jr Q) (he : Ev w A env σ μ e d) (hr : Jr σ μ d) : Go w A env g av₀ s Q σ μ (.Return (some e) pos :: rest) := ⟨fun av h tk up om st =>
  wpAny_execs_cons (wpAny_Return_some (he.run g av s h tk _ _ st fun v h1 tk1 e1 a1 => hq.ret σ μ d hr av h1 tk1 v up om (st.grow e1) a1))⟩
theorem go_forRS {α : Type} {inj : α → D} {xs : List α} {tup : Bool} {target iter : Expr} {body : List Stmt} {pos : Pos} (hsrc : Src tup w A env σ μ iter (xs.map inj))
    (P : List α → Prop) (σf : Sg) (μf : Mu) (Jr : Sg → Mu → D → Prop) (h0 : SubAll σ σf) (m0 : MuAll μ μf) (p0 : P [])
    (turn : ∀ pre x post, xs = pre ++ x :: post → P pre → ∃ σ1, Bind w A env σf target (inj x) σ1 ∧ ∀ g' av1 Q', LoopR w env g' av1 s (fun σ' μ' => P (pre ++ [x]) ∧ SubAll σ' σf ∧ MuAll μ' μf) Jr Q' → Go w A env g' av1 s Q' σ1 μf body)
    (after : P xs → Go w A env g av₀ s Q σf μf rest)
    (hret : ∀ σ μ r, Jr σ μ r → ∀ av' h' tk' v, (∀ a, av₀ a → av' a) → OffMu av₀ μ → S w g env av' h' σ μ → At av' h' v r → Q (.ret v) (upd s h' tk'))
    (htg : tup = true → ∃ es k p, target = .Tuple es k p := by first | exact fun _ => ⟨_, _, _, rfl⟩ | (intro h; cases h))
    (hs : ∀ x, foldedSetIterable iter env x = pure x := by intro _; rfl) : Go w A env g av₀ s Q σ μ (.For target iter body [] pos :: rest) := by
  refine go_forR hsrc htg (fun i σ' μ' => P (xs.take i) ∧ SubAll σ' σf ∧ MuAll μ' μf) Jr ⟨by simpa using p0, h0, m0⟩ (fun i d σi μi hd hj => ?_) (fun σn μn hn => ?_) hret hs
  · obtain ⟨x, hx, rfl⟩ : ∃ x, xs[i]? = some x ∧ d = inj x := by
      rw [List.getElem?_map] at hd
      cases q : xs[i]? with
      | none => rw [q] at hd; cases hd
      | some x => rw [q] at hd; exact ⟨x, rfl, (Option.some.inj hd).symm⟩
    have hlt : i < xs.length := by
      rcases Nat.lt_or_ge i xs.length with q | q
      · exact q
      · rw [List.getElem?_eq_none q] at hx; cases hx
    have e1 : xs = xs.take i ++ x :: xs.drop (i + 1) := by
      have : xs[i] = x := by rw [List.getElem?_eq_getElem hlt] at hx; exact Option.some.inj hx
      rw [← this, ← List.drop_eq_getElem_cons hlt, List.take_append_drop]
    obtain ⟨σ1, hb, hgo⟩ := turn (xs.take i) x (xs.drop (i + 1)) e1 hj.1
    have e2 : xs.take (i + 1) = xs.take i ++ [x] := by rw [List.take_add_one, hx]; rfl
    refine ⟨σ1, ⟨fun g av μ s h tk v Q E st a k => hb.run g av μ s h tk v Q E (st.weak hj.2.1.get) a k⟩, fun g' av1 Q' hq => go_weak (fun _ _ q => q) hj.2.2.get (hgo g' av1 Q' ?_)⟩
    rw [e2] at hq; exact hq
  · rw [List.length_map, List.take_of_length_le (Nat.le_refl _)] at hn
    exact go_as hn.2.1 hn.2.2 (after hn.1)
end
end
section
/-- what a reader answers of a name not met before -/
def fresh1 (m : Option Str) (dirs : List Str) (fn : Option Str) (mn : Str) : Int :=
  if m == some mn then 1
  else if (itemsOf m).any fun x => Txt.startswith mn (x ++ ".") then 1
  else match fn with
    | none => 1
    | some f => if dirs.any fun d => Txt.startswith f (d ++ "/") then 1 else 0
def namesV (m : Option Str) (dirs : List Str) (kvs : List (Str × Int)) (fn : Option Str) (mn : Str) : Int := (kvs.lookup mn).getD (fresh1 m dirs fn mn)
def namesT (m : Option Str) (dirs : List Str) (kvs : List (Str × Int)) (fn : Option Str) (mn : Str) : List (Str × Int) := if tabIn kvs mn then kvs else kvs ++ [(mn, fresh1 m dirs fn mn)]
def dOpt : Option Str → D
  | none => .none
  | some x => .str x
/-- reader.names, with the reader's table -/
structure FnN (w : World) (f : Addr) (n : Nat) (m : Option Str) (dirs : List Str) (kvs : List (Str × Int)) (fn : Option Str) (mn : Str) : Prop where
  run : ∀ (A : Around) (av : AV) (s : Shared) (g h : Heap) (tk : Nat) (di : Addr) (vs : List Value) (Q : Value → Shared → Prop) (E : Value → Shared → Prop), AOk A n → GB w g → Ext g h → g.get? di = none → av di → (∀ a, av a → ∃ o, h.get? a = some o) → (MO.tab w kvs).holds av h di →
    Ats av h vs [.inst 152 (igF w m dirs di), dOpt fn, .str mn] →
    (∀ r h' tk', (∀ b o, b ≠ di → h.get? b = some o → h'.get? b = some o) → (MO.tab w (namesT m dirs kvs fn mn)).holds av h' di → At av h' r (.int (namesV m dirs kvs fn mn)) → Q r (upd s h' tk')) → wpAny (model P0 w) A (call (.ref f) vs) Q E (upd s h tk)

/-- an expression that turns the table at di -/
structure EvS (w : World) (A : Around) (env : Env) (σ : Sg) (μ : Mu) (di : Addr) (k1 : List (Str × Int)) (e : Expr) (d : D) : Prop where
  run : ∀ (g : Heap) (av : AV) (s : Shared) (h : Heap) (tk : Nat) (Q : Value → Shared → Prop) (E : Value → Shared → Prop), S w g env av h σ μ →
    (∀ v h' tk', KeepBut [di] h h' → S w g env av h' σ ((di, .tab w k1) :: μ) → At av h' v d → Q v (upd s h' tk')) → wpAny (model P0 w) A (eval e env) Q E (upd s h tk)
section
variable {w : World} {A : Around} {env : Env} {σ σc : Sg} {μ : Mu}
/-- all stands but l; new live addresses -/
theorem S.putLive {g : Heap} {av av' : AV} {h h' : Heap} {l : Addr} {m0 m1 : MO} {μ' : Mu} (x : S w g env av h σ μ) (hl : μ.lookup l = some m0) (keep : ∀ b o, b ≠ l → h.get? b = some o → h'.get? b = some o) (up : ∀ a, av a → av' a) (mo : More av av' h) (dom : ∀ a, av' a → ∃ o, h'.get? a = some o)
    (hv : m1.holds av' h' l) (hμ : ∀ a mo, μ'.lookup a = some mo → (a = l ∧ mo = m1) ∨ (a ≠ l ∧ μ.lookup a = some mo)) : S w g env av' h' σ μ' := by
  obtain ⟨_, al, gl, nl, cl⟩ := x.mu l _ hl
  have ha : ∀ a o, ¬ av a → h.get? a = some o → ¬ av' a ∧ h'.get? a = some o := fun a o n q => ⟨mo.some n q, keep a o (fun e => n (e ▸ al)) q⟩
  exact {
    base := x.base
    ext := fun b o e => keep b o (fun q => by rw [q, gl] at e; cases e) (x.ext b o e)
    kind := x.kind
    glob := x.glob
    blt := x.blt
    ns := by
      obtain ⟨m, ⟨o, es, ep, ho, r⟩, hm⟩ := x.ns
      exact ⟨m, ⟨o, es, ep, keep _ _ (Ne.symm nl) ho, r⟩, fun y sv q k => let ⟨v, a, b⟩ := hm y sv q k; ⟨v, a, b.mono ha⟩⟩
    cells := fun y sv q k => by
      obtain ⟨k1, c, v, lk, ⟨o, ho, hd⟩, b⟩ := x.cells y sv q k
      exact ⟨k1, c, v, lk, ⟨o, keep _ _ (cl _ _ lk) ho, hd⟩, b.mono ha⟩
    ownL := ⟨up _ x.ownL.1, x.ownL.2⟩
    ownC := fun y c q => by
      obtain ⟨a, b, d, v, o, ho, hd⟩ := x.ownC y c q
      exact ⟨up _ a, b, d, v, o, keep _ _ (cl _ _ q) ho, hd⟩
    apart := x.apart
    dom := dom
    mu := fun a mo' q => by
      rcases hμ a mo' q with ⟨rfl, rfl⟩ | ⟨hn, q⟩
      · exact ⟨hv, up _ al, gl, nl, cl⟩
      · obtain ⟨b, c, d, e, f⟩ := x.mu a mo' q
        exact ⟨MO.holds_mono ha (fun o r => keep _ o hn r) b, up _ c, d, e, f⟩ }
theorem more_refl {av : AV} {h : Heap} : More av av h := fun _ q => .inl q

/-- reader.names(path, name) -/
theorem evS_names {o e1 e2 : Expr} {apos pos : Pos} {di : Addr} {m : Option Str} {dirs : List Str} {kvs : List (Str × Int)} {fn : Option Str} {mn : Str} {n : Nat} (hA : AOk A n) (ho : Ev w A env σ μ o (.inst 152 (igF w m dirs di))) (h1 : Ev w A env σ μ e1 (dOpt fn)) (h2 : Ev w A env σ μ e2 (.str mn))
    (hm : μ.lookup di = some (.tab w kvs)) (hc : FnN w 149 n m dirs kvs fn mn)
    (hx1 : ∀ env, starEach [e1, e2] env = (false, eval e1 env) :: starEach [e2] env := by intros; rfl) (hx2 : ∀ env, starEach [e2] env = (false, eval e2 env) :: starEach [] env := by intros; rfl)
    (hb : ∀ env, attributeBase o "names" env (eval o env) = eval o env := by intros; rfl) (hl : (apos.endLine == pos.line) = true := by decide) :
    EvS w A env σ μ di (namesT m dirs kvs fn mn) (.Call (.Attribute o "names" apos) [e1, e2] [] pos) (.int (namesV m dirs kvs fn mn)) := ⟨fun g av s h tk Q E st k => by
  obtain ⟨pl, he⟩ := meth_eq (name := "names") (apos := apos) (pos := pos) (args := [e1, e2]) (hb env) hl (by rw [hx1, hx2]; rfl) (by simp)
  have hg : GetM w A (.inst 152 (igF w m dirs di)) "names" (.ref 149) := gm_inst rfl
  refine methodCall_KW (kws := []) (ho.run g av s h tk _ E st fun v h1' tk1 ex1 a1 => hg.run av s h1' tk1 v pl _ E (st.base.ext (st.ext.trans ex1)) a1.t ?_) he
  rw [hx1, hx2]
  have st1 := st.grow ex1
  refine callWith_of (P := fun h => (Mine.hd.heap_1 w.params).In h) rfl (keeps_K rfl) (evalArgs_plain (spliced_cons (h1.run g av s h1' tk1 _ _ st1 fun u1 h2' tk2 ex2 a2 => spliced_cons (h2.run g av s h2' tk2 _ _ (st1.grow ex2) fun u2 h3' tk3 ex3 a3 => spliced_nil ⟨?_, ?_⟩))))
  · exact (st1.base.ext (st1.ext.trans (ex2.trans ex3))).K
  · have st3 := (st1.grow ex2).grow ex3
    obtain ⟨ht, adi, gdi, _⟩ := st3.mu di _ hm
    refine hc.run A av s g h3' tk3 di [v, u1, u2] Q E hA st.base st3.ext gdi adi st3.dom ht (.cons ((a1.ext ex2).ext ex3) (.cons (a2.ext ex3) (.cons a3 .nil))) fun r h' tk' kp ht' ar => ?_
    refine k r h' tk' (fun b o nb q => kp b o (fun e => nb (List.mem_singleton.mpr e)) (ex3 _ _ (ex2 _ _ (ex1 _ _ q)))) (st3.putLive (m1 := .tab w (namesT m dirs kvs fn mn)) hm kp (fun _ q => q) more_refl (fun a q => ?_) ht' mu_put) ar
    by_cases e : a = di
    · subst e; exact MO.holds_some ht'
    · obtain ⟨o, ho⟩ := st3.dom a q; exact ⟨o, kp a o e ho⟩⟩

/-- a run of questions: answers and tables -/
def outsOf {α κ : Type} (V : κ → α → D) (T : κ → α → κ) : κ → List α → List D
  | _, [] => []
  | k, x :: xs => V k x :: outsOf V T (T k x) xs
theorem outsOf_snoc {α κ : Type} (V : κ → α → D) (T : κ → α → κ) : ∀ (k : κ) (pre : List α) (x : α), outsOf V T k (pre ++ [x]) = outsOf V T k pre ++ [V (pre.foldl T k) x]
  | k, [], x => rfl
  | k, y :: pre, x => by simp [outsOf, outsOf_snoc V T (T k y) pre x]
theorem outsOf_len {α κ : Type} (V : κ → α → D) (T : κ → α → κ) : ∀ (k : κ) (xs : List α), (outsOf V T k xs).length = xs.length
  | k, [] => rfl
  | k, y :: pre => by simp [outsOf, outsOf_len V T (T k y) pre]

structure LoopOkS (w : World) (A : Around) (env : Env) (σ : Sg) (e : Expr) (depth : Nat) (tup : Bool) (items : List D) (di : Addr) (k0 k1 : List (Str × Int)) (outs : List D) : Prop where
  run : ∀ (g : Heap) (av : AV) (μ : Mu) (Da I : Addr) (wr : List Addr) (St : Nat → Heap → Prop) (s : Shared) (h : Heap) (tk : Nat) (R : Result → Shared → Prop),
    It tup w A av I wr St items → St 0 h → S w g env av h σ ((Da, .list []) :: (di, .tab w k0) :: μ) → outs.length ≤ sizeLine → Da ≠ di → (∀ mo, μ.lookup Da ≠ some mo) →
    (∀ a ∈ wr, av a ∧ g.get? a = none ∧ a ≠ Da ∧ a ≠ di ∧ a ≠ env.locals ∧ (∀ y c, env.cells.lookup y = some c → c ≠ a) ∧ ∀ mo, μ.lookup a ≠ some mo) →
    (∀ h' tk', KeepBut (wr ++ [env.locals, Da, di]) h h' → S w g env (fun a => av a ∧ a ∉ wr) h' σ ((Da, .list outs) :: (di, .tab w k1) :: μ) → R (.ok .next) (upd s h' tk')) →
    codeAny (model P0 w) A (.compLoop e depth (.ref I) (.ref Da) env) R (upd s h tk)

theorem loop_mapS0 {α : Type} {inj : α → D} {V : List (Str × Int) → α → D} {T : List (Str × Int) → α → List (Str × Int)} {e elt target : Expr} {ifs : List Expr} {p : Pos} {tup : Bool} {xs : List α} {di : Addr} {k0 : List (Str × Int)} {t : Value → Sem Unit}
    (hturn : ∀ it acc, compTurn e 0 it acc env = (do
      standAt p
      match ← pyNext it with
      | none => pure (.done .next)
      | some v =>
        letOwnedTupleGo target it v
        assign target env v
        let mut ok := true
        for c in ifs do
          if ok then ok ← isTrue c env (eval c env)
        if ok then
          t acc
        again (.compLoop e 0 it acc env)))
    (hloop : ∀ it acc, (model P0 w).den (.compLoop e 0 it acc env) = (compTurn e 0 it acc env).onRaise fun x => do noteFrame x env; theTreesLotGoes x)
    (hq : ∀ it acc, (Code.compLoop e 0 it acc env).quiet = true) (hu : ∀ it acc, A.under (.compLoop e 0 it acc env) = A)
    (ht : t = fun acc => do let _ ← call (.builtin "list.append") [acc, ← eval elt env])
    (hifs : ifs = [])
    (htg : tup = true → ∃ es k p, target = .Tuple es k p)
    (item : ∀ pre x post, xs = pre ++ x :: post → ∃ σ1, BindL w A env σ target (inj x) σ1 ∧ SubAll σ1 σ ∧ ∀ μ, μ.lookup di = some (.tab w (pre.foldl T k0)) → EvS w A env σ1 μ di (T (pre.foldl T k0) x) elt (V (pre.foldl T k0) x)) :
    LoopOkS w A env σ e 0 tup (xs.map inj) di k0 (xs.foldl T k0) (outsOf V T k0 xs) := by
  refine ⟨?_⟩
  intro g av μ Da I wr St s h tk R it st0 st hz hDdi hD hwr k
  refine codeAny_loop (hq _ _) (fun n s' => ∃ h' tk' i, s' = upd s h' tk' ∧ n = xs.length - i ∧ i ≤ xs.length ∧ St i h' ∧ S w g env av h' σ ((Da, .list (outsOf V T k0 (xs.take i))) :: (di, .tab w ((xs.take i).foldl T k0)) :: μ) ∧ KeepBut (wr ++ [env.locals, Da, di]) h h') ?_ xs.length
    ⟨h, tk, 0, rfl, by simp, Nat.zero_le _, st0, by simpa [outsOf] using st, fun _ _ _ e => e⟩
  rintro n s' ⟨h', tk', i, rfl, rfl, hi, sti, sti', hk⟩
  rw [hloop, hu]
  refine wpAny_noted ?_
  rw [hturn]
  refine wpAny_bind (wpAny_standAt (wpAny_bind ?_))
  have ldi : ∀ {ys : List D} {kk : List (Str × Int)}, List.lookup di ((Da, MO.list ys) :: (di, .tab w kk) :: μ) = some (.tab w kk) := fun {ys kk} => mu_skip (Ne.symm hDdi) mu_self
  have nwr : ∀ {ys : List D} {kk : List (Str × Int)} a, (a = env.locals ∨ (∃ y, env.cells.lookup y = some a) ∨ ∃ mo, List.lookup a ((Da, MO.list ys) :: (di, .tab w kk) :: μ) = some mo) → a ∉ wr := fun {ys kk} a q m => by
    obtain ⟨_, _, m1, m1', m2, m3, m4⟩ := hwr a m
    rcases q with q | ⟨y, q⟩ | ⟨mo, q⟩
    · exact m2 q
    · exact m3 y a q rfl
    · rw [lookupM_cons, if_neg m1, lookupM_cons, if_neg m1'] at q; exact m4 mo q
  by_cases hlt : i < xs.length
  · obtain ⟨x, hx⟩ : ∃ d, xs[i]? = some d := ⟨xs[i], by simp [hlt]⟩
    have hd : (xs.map inj)[i]? = some (inj x) := by rw [List.getElem?_map, hx]; rfl
    have e1 : xs = xs.take i ++ x :: xs.drop (i + 1) := by
      have : xs[i] = x := by rw [List.getElem?_eq_getElem hlt] at hx; exact Option.some.inj hx
      rw [← this, ← List.drop_eq_getElem_cons hlt, List.take_append_drop]
    have e2 : xs.take (i + 1) = xs.take i ++ [x] := by rw [List.take_add_one, hx]; rfl
    obtain ⟨σ1, hb, hw, hi2⟩ := item _ x _ e1
    have hfl : (outsOf V T k0 (xs.take i)).length ≤ sizeLine := by
      rw [outsOf_len] at hz ⊢; rw [List.length_take]; omega
    refine wpAny_mono (it.next target i (inj x) s h' tk' (fun v s2 => wpAny (model P0 w) A (do
        assign target env v
        let mut ok := true
        for c in ifs do
          if ok then ok ← isTrue c env (eval c env)
        if ok then
          t (.ref Da)
        again (.compLoop e 0 (.ref I) (.ref Da) env)) (fun fin s' => match fin with | .done f => R (.ok f) s' | .again c' => c' = .compLoop e 0 (.ref I) (.ref Da) env ∧ ∃ m, m < xs.length - i ∧ (∃ h' tk' i, s' = upd s h' tk' ∧ m = xs.length - i ∧ i ≤ xs.length ∧ St i h' ∧ S w g env av h' σ ((Da, .list (outsOf V T k0 (xs.take i))) :: (di, .tab w ((xs.take i).foldl T k0)) :: μ) ∧ KeepBut (wr ++ [env.locals, Da, di]) h h')) (notedBy (model P0 w) A env fun e s' => R (.error e) s') s2) _ htg av (fun _ q => q) (fun a q => (hwr a q).1) sti hd sti'.dom ?_) ?_ fun _ _ x => x
    · intro v h2 tk2 st2 kb2 a2
      have S2 : S w g env av h2 σ ((Da, .list (outsOf V T k0 (xs.take i))) :: (di, .tab w ((xs.take i).foldl T k0)) :: μ) := by
        refine sti'.go2 (fun b o q => kb2 b o (fun m => by rw [(hwr b m).2.1] at q; cases q) (sti'.ext b o q)) (fun a o n q => ⟨n, kb2 a o (fun m => n (hwr a m).1) q⟩) sti'.ownL.1 (fun y c q => (sti'.ownC y c q).1) (fun a mo q => (sti'.mu a mo q).2.1) (fun a q => ?_) (fun a o q r => kb2 a o (nwr a q) r)
        by_cases m : a ∈ wr
        · exact it.alive _ _ st2 a m
        · obtain ⟨o, ho⟩ := sti'.dom a q; exact ⟨o, kb2 a o m ho⟩
      have frm : ∀ {x y : Heap} {j : Nat}, St j x → KeepBut [env.locals, Da, di] x y → St j y := fun st kb => it.frame _ _ _ st fun a o q r => kb a o (fun m => by
        rcases q with q | q
        · obtain ⟨_, _, m1, m1', m2, _⟩ := hwr a q
          simp only [List.mem_cons, List.mem_nil_iff, or_false] at m
          exact m.elim m2 fun m => m.elim m1 m1'
        · simp only [List.mem_cons, List.mem_nil_iff, or_false] at m
          rcases m with m | m | m
          · exact q (m ▸ sti'.ownL.1)
          · exact q (m ▸ (sti'.mu Da _ (by rw [lookupM_cons, if_pos rfl])).2.1)
          · exact q (m ▸ (sti'.mu di _ ldi).2.1)) r
      refine wpAny_bind (hb.run g av _ s h2 tk2 v _ _ S2 a2 fun h3 tk3 S3 kb3 => ?_)
      have st3 : St (i + 1) h3 := frm st2 fun a o n r => kb3 a o (fun m => n (by simp only [List.mem_singleton] at m; simp [m])) r
      subst hifs
      refine wpAny_bind (wpAny_tests_nil ?_)
      rw [ht]
      refine wpAny_bind ?_
      refine wpAny_bind ((hi2 _ ldi).run g av s h3 tk3 _ _ S3 fun r h4 tk4 kb4 S4 a4 => ?_)
      have S4' : S w g env av h4 σ1 ((Da, .list (outsOf V T k0 (xs.take i))) :: (di, .tab w (T ((xs.take i).foldl T k0) x)) :: μ) := S4.weakMu fun a mo q => by
        rw [lookupM_cons] at q
        split at q
        · rename_i e; subst e; cases q; exact mu_skip hDdi mu_self
        · rename_i e
          rw [lookupM_cons] at q
          split at q
          · rename_i e'; subst e'; cases q; exact mu_self
          · rename_i e'; exact mu_skip e' (mu_skip e (mu_skip e' q))
      have hD' : ∀ mo, List.lookup Da ((di, MO.tab w (T ((xs.take i).foldl T k0) x)) :: μ) ≠ some mo := fun mo q => by
        rw [lookupM_cons, if_neg hDdi] at q; exact hD mo q
      refine wpAny_bind (append_mu S4' a4 hfl hD' fun h5 sb5 S5 => wpAny_pure (wpAny_pure ?_))
      refine ⟨rfl, xs.length - (i + 1), by omega, h5, tk4, i + 1, rfl, rfl, hlt, ?_, ?_, ?_⟩
      · refine frm st3 fun a o n r => (sb5.2 a fun q => n (by simp [q])).trans (kb4 a o (fun m => n (by simp only [List.mem_singleton] at m; simp [m])) r)
      · rw [e2, outsOf_snoc, List.foldl_append]
        exact S5.weak hw.get
      · exact fun a o n r => (sb5.2 a fun q => n (by simp [q])).trans (kb4 a o (fun m => n (by simp only [List.mem_singleton] at m; simp [m])) (kb3 a o (fun m => n (List.mem_append_right _ (by simp only [List.mem_singleton] at m; simp [m]))) (kb2 a o (fun m => n (List.mem_append_left _ m)) (hk a o n r))))
    · intro r s1 hr
      obtain ⟨v, rfl, hv⟩ := hr
      exact wpAny_bind hv
  · have hin : i = xs.length := by omega
    subst hin
    have sti : St (xs.map inj).length h' := by rw [List.length_map]; exact sti
    refine wpAny_mono (it.done s h' tk' (fun s1 => R (.ok .next) s1) _ sti fun h2 tk2 kb2 => ?_) (fun r s1 hr => ?_) fun _ _ x => x
    · refine k h2 tk2 (fun a o n r => kb2 a o (fun m => n (List.mem_append_left _ m)) (hk a o n r)) ?_
      rw [List.take_of_length_le (Nat.le_refl _)] at sti'
      refine sti'.go2 (fun b o q => kb2 b o (fun m => by rw [(hwr b m).2.1] at q; cases q) (sti'.ext b o q)) (fun a o n q => ⟨fun x => n x.1, kb2 a o (fun m => n (hwr a m).1) q⟩) ⟨sti'.ownL.1, nwr (ys := []) (kk := []) _ (.inl rfl)⟩ (fun y c q => ⟨(sti'.ownC y c q).1, nwr (ys := []) (kk := []) _ (.inr (.inl ⟨y, q⟩))⟩) (fun a mo q => ⟨(sti'.mu a mo q).2.1, nwr _ (.inr (.inr ⟨mo, q⟩))⟩) (fun a q => ?_) (fun a o q r => kb2 a o (nwr a q) r)
      obtain ⟨o, ho⟩ := sti'.dom a q.1; exact ⟨o, kb2 a o q.2 ho⟩
    · obtain ⟨rfl, hr⟩ := hr
      exact wpAny_pure hr
theorem loop_mapS {α : Type} {inj : α → D} {V : List (Str × Int) → α → D} {T : List (Str × Int) → α → List (Str × Int)} {elt target iter : Expr} {scope : Scope} {pos : Pos} {tup : Bool} {xs : List α} {di : Addr} {k0 : List (Str × Int)}
    (htg : tup = true → ∃ es k p, target = .Tuple es k p)
    (item : ∀ pre x post, xs = pre ++ x :: post → ∃ σ1, BindL w A env σ target (inj x) σ1 ∧ SubAll σ1 σ ∧ ∀ μ, μ.lookup di = some (.tab w (pre.foldl T k0)) → EvS w A env σ1 μ di (T (pre.foldl T k0) x) elt (V (pre.foldl T k0) x)) :
    LoopOkS w A env σ (.ListComp elt [⟨target, iter, [], 0⟩] scope pos) 0 tup (xs.map inj) di k0 (xs.foldl T k0) (outsOf V T k0 xs) :=
  loop_mapS0 (ifs := []) (target := target) (elt := elt) (t := fun acc => do let _ ← call (.builtin "list.append") [acc, ← eval elt env]) (p := iter.pos) (fun _ _ => rfl) (fun _ _ => rfl) (fun _ _ => rfl) (fun _ _ => rfl) rfl rfl htg item
end
end
section
section
variable {w : World} {A : Around} {env : Env} {σ : Sg} {μ : Mu} {g : Heap} {av₀ : AV} {s : Shared} {Q : Flow → Shared → Prop} {rest : List Stmt}
theorem go_retS {e : Expr} {pos : Pos} {d : D} (he : Ev w A env σ μ e d) (k : ∀ av v h' tk', (∀ a, av₀ a → av a) → S w g env av h' σ μ → At av h' v d → Q (.ret v) (upd s h' tk')) : Go w A env g av₀ s Q σ μ (.Return (some e) pos :: rest) := ⟨fun av h tk up om st =>
  wpAny_execs_cons (wpAny_Return_some (he.run g av s h tk _ _ st fun v h1 tk1 e1 a1 => k av v h1 tk1 up (st.grow e1) a1))⟩
end

theorem str_eq_some {m : Option Str} {x : Str} : (m == some x) = (m == some x) := rfl
set_option maxHeartbeats 4000000 in
theorem fn_names {w : World} {m : Option Str} {dirs : List Str} {kvs : List (Str × Int)} {fn : Option Str} {mn : Str} (hz : kvs.length ≤ 1000) (hm : ∀ x, m = some x → x.length ≤ 100000) (hd : dirs.length ≤ 1000 ∧ ∀ d ∈ dirs, d.length ≤ 100000) : FnN w 149 10 m dirs kvs fn mn := by
  refine ⟨fun A av s g h tk di vs Q E hA B eg gdi adi dom ht ats k => wpAny_call ?_⟩
  cases ats with
  | @cons v1 _ _ _ a1 r => cases r with
    | @cons v2 _ _ _ a2 r => cases r with
      | @cons v3 _ _ _ a3 r => cases r with
        | nil =>
          have e1 : Ext g (hideAll h [di]) := fun b o q => hideAll_get _ (eg b o q) fun r => by rw [List.mem_singleton.mp r, gdi] at q; cases q
          have e2 : Ext (hideAll h [di]) h := fun b o q => of_hideAll _ q
          refine enterC (n := 9) (g := hideAll h [di]) (h := h) (tk := tk) (av := av) (binds := [("self", v1), ("filename", v2), ("modulename", v3)]) (σ := [("self", .d (.inst 152 (igF w m dirs di))), ("filename", .d (dOpt fn)), ("modulename", .d (.str mn))]) (μ := [(di, .tab w kvs)]) hA (B.ext eg) (B.ext e1) e2 (Ext.refl h)
            (fun Q E q => wpAny_pure q) (by simp; decide) (fun x hx => ?_) (fun x sv q => ?_) dom (fun a mo q => ?_) (fun L av' h₁ tk₁ up lim st => ?_)
          · simp only [List.mem_cons, List.mem_nil_iff, or_false] at hx
            rcases hx with rfl | rfl | rfl <;> exact fun _ => .inl rfl
          · by_cases h1 : x = "self"
            · subst h1; rw [lookup_cons_eq] at q; cases q; exact ⟨_, .head _, a1⟩
            · rw [lookup_cons_ne h1] at q
              by_cases h2 : x = "filename"
              · subst h2; rw [lookup_cons_eq] at q; cases q; exact ⟨_, .tail _ (.head _), a2⟩
              · rw [lookup_cons_ne h2] at q
                by_cases h3 : x = "modulename"
                · subst h3; rw [lookup_cons_eq] at q; cases q; exact ⟨_, .tail _ (.tail _ (.head _)), a3⟩
                · rw [lookup_cons_ne h3] at q; simp at q
          · rw [lookupM_cons] at q
            split at q
            · rename_i r; cases q; subst r; exact ⟨ht, adi, gone (.head _)⟩
            · simp at q
          · have up2 : ∀ a, (av a ∧ a ≠ di) → av' a := fun a q => up a q.1
            have fin : ∀ {B1 : Around} {env1 : Env} {σ1 : Sg} {μ1 : Mu} {e : Expr} {pos : Pos} {rest : List Stmt}, Ev w B1 env1 σ1 μ1 e (.int (namesV m dirs kvs fn mn)) → List.lookup di μ1 = some (.tab w (namesT m dirs kvs fn mn)) →
                Go w B1 env1 (hideAll h [di]) (fun a => av a ∧ a ≠ di) s (fun fl s' => Q (match fl with | .ret v => v | _ => .none) s') σ1 μ1 (.Return (some e) pos :: rest) := fun he hm => go_retS he fun av2 v h' tk' up' st' a => by
              obtain ⟨ht', adi', _⟩ := st'.mu di _ hm
              refine k v h' tk' (fun b o n q => st'.ext b o (hideAll_get _ q fun r => n (List.mem_singleton.mp r))) ht' (a.less fun b q => ?_)
              by_cases r : b = di
              · exact r ▸ adi'
              · exact up' b ⟨q, r⟩
            have om2 : OffMu (fun a => av a ∧ a ≠ di) [(di, MO.tab w kvs)] := fun a mo q r => by
              rw [lookupM_cons, if_neg r.2] at q; simp at q
            refine Go.run (env := callEnvC _ L 149) (μ := [(di, .tab w kvs)]) (g := hideAll h [di]) (av₀ := fun a => av a ∧ a ≠ di) (s := s) (σ := [("self", .d (.inst 152 (igF w m dirs di))), ("filename", .d (dOpt fn)), ("modulename", .d (.str mn))]) ?_ av' h₁ tk₁ up2 om2 st
            refine go_if (tr_inTab (ev_name rfl) (ev_attr (ev_name rfl) rfl) mu_self) (fun hin => ?_) fun hin => ?_
            · obtain ⟨v, hv⟩ := Option.isSome_iff_exists.mp hin
              have e1 : namesV m dirs kvs fn mn = v := by unfold namesV; rw [hv]; rfl
              have e2 : namesT m dirs kvs fn mn = kvs := by unfold namesT; rw [if_pos hin]
              rw [e1, e2] at fin
              exact fin (ev_subTab (ev_attr (ev_name rfl) rfl) (ev_name rfl) mu_self hv) mu_self
            · have hl : kvs.lookup mn = none := by
                unfold tabIn at hin; cases q : kvs.lookup mn with
                | none => rfl
                | some v => rw [q] at hin; cases hin
              have e1 : namesV m dirs kvs fn mn = fresh1 m dirs fn mn := by unfold namesV; rw [hl]; rfl
              have e2 : namesT m dirs kvs fn mn = kvs ++ [(mn, fresh1 m dirs fn mn)] := by unfold namesT; rw [hin]; rfl
              rw [e1, e2] at fin
              refine go_if (tr_cmp (Ev.t (ev_name rfl)) (Ev.t (ev_attr (ev_name rfl) rfl)) cmp_inSet) (fun h1 => ?_) fun h1 => ?_
              · have e3 : fresh1 m dirs fn mn = 1 := by unfold fresh1; rw [if_pos h1]
                rw [e3] at fin
                exact go_setTab ev_int (ev_attr (ev_name rfl) rfl) (ev_name rfl) mu_self hl hz (fin ev_int mu_self)
              · have hret : ∀ (env1 : Env) (σ1 : Sg) (μ1 : Mu) (r : D), (r = .int 1 ∧ fresh1 m dirs fn mn = 1 ∧ List.lookup di μ1 = some (.tab w (kvs ++ [(mn, 1)]))) → ∀ av2 h' tk' v, (∀ a, (av a ∧ a ≠ di) → av2 a) → OffMu (fun a => av a ∧ a ≠ di) μ1 → S w (hideAll h [di]) env1 av2 h' σ1 μ1 → At av2 h' v r → Q v (upd s h' tk') := fun env1 σ1 μ1 r hr av2 h' tk' v up' om' st' a => by
                  obtain ⟨rfl, hf, hm'⟩ := hr
                  obtain ⟨ht', adi', _⟩ := st'.mu di _ hm'
                  rw [e1, e2, hf] at k
                  refine k v h' tk' (fun b o n q => st'.ext b o (hideAll_get _ q fun r => n (List.mem_singleton.mp r))) ht' (a.less fun b q => ?_)
                  by_cases r : b = di
                  · exact r ▸ adi'
                  · exact up' b ⟨q, r⟩
                have f0 : ∀ b, (itemsOf m).any (fun x => Txt.startswith mn (x ++ ".")) = b → fresh1 m dirs fn mn = if b then 1 else match fn with | none => 1 | some f => if dirs.any fun d => Txt.startswith f (d ++ "/") then 1 else 0 := fun b hb => by
                  unfold fresh1; rw [if_neg (by rw [h1]; decide), hb]; try (cases fn <;> rfl)
                refine go_forRS (tup := false) (inj := D.str) (xs := itemsOf m) (hsrc := ?hsrc) (fun pre => ∀ x ∈ pre, Txt.startswith mn (x ++ ".") = false) [("self", .d (.inst 152 (igF w m dirs di))), ("filename", .d (dOpt fn)), ("modulename", .d (.str mn))] [(di, .tab w kvs)]
                  (fun σ1 μ1 r => r = .int 1 ∧ fresh1 m dirs fn mn = 1 ∧ List.lookup di μ1 = some (.tab w (kvs ++ [(mn, 1)]))) ⟨rfl, rfl, rfl, trivial⟩ ⟨mu_self, trivial⟩ (fun x hx => by simp at hx) (fun pre x post hx hp => ?_) (fun hP => ?_) (fun σ1 μ1 r hr av2 h' tk' v up' om' st' a => hret _ σ1 μ1 r hr av2 h' tk' v up' om' st' a)
                case hsrc => exact src_set (hA.deeper (n := 9) _).hd (ev_attr (ev_name rfl) rfl)
                · have hxm : x ∈ itemsOf m := hx ▸ List.mem_append_right pre List.mem_cons_self
                  have hxl : x.length ≤ 100000 := by
                    cases m with
                    | none => simp [itemsOf] at hxm
                    | some y => cases List.mem_singleton.mp hxm; exact hm _ rfl
                  have ldot : ("." : Str).length = 1 := rfl
                  refine ⟨_, bind_name (.inl rfl), fun g' av1 Q' hq => ?_⟩
                  refine go_if (tr_val (Ev.t (ev_methB (Ev.t (ev_name rfl)) gm_startswith (argsT_cons (Ev.t (ev_bin (Ev.t (ev_name rfl)) (Ev.t ev_str) (op_cat (by rw [ldot, sizeLine_eq]; omega)))) argsT_nil) call_startswith)) ty_bool) (fun h2 => ?_) fun h2 => ?_
                  · have e3 : fresh1 m dirs fn mn = 1 := by
                      rw [f0 true (List.any_eq_true.mpr ⟨x, hxm, h2⟩)]; rfl
                    exact go_setTab ev_int (ev_attr (ev_name rfl) rfl) (ev_name rfl) mu_self hl hz (hq.go_ret ev_int ⟨rfl, e3, mu_self⟩)
                  · refine hq.go_nil ⟨fun y hy => ?_, ⟨rfl, rfl, rfl, trivial⟩, ⟨mu_self, trivial⟩⟩
                    rcases List.mem_append.mp hy with hy | hy
                    · exact hp y hy
                    · cases List.mem_singleton.mp hy; exact h2
                have f1 := f0 false (by rw [List.any_eq_false]; intro x hx; rw [hP x hx]; decide)
                cases fn with
                | none =>
                  have e3 : fresh1 m dirs none mn = 1 := f1
                  rw [e3] at fin
                  exact go_if (b := true) (tr_cmp (Ev.t (ev_name rfl)) (Ev.t ev_none) (cmp_isNone true rfl)) (fun _ => go_setTab ev_int (ev_attr (ev_name rfl) rfl) (ev_name rfl) mu_self hl hz (fin ev_int mu_self)) fun h => by cases h
                | some f =>
                  refine go_if (b := false) (tr_cmp (Ev.t (ev_name rfl)) (Ev.t ev_none) (cmp_isNone false rfl)) (fun h => by cases h) fun _ => ?_
                  refine go_forRS (inj := D.str) (xs := dirs) (src_list (hA.deeper (n := 9) _).hd (ev_attr (d := dLS dirs) (ev_name rfl) rfl)) (fun pre => ∀ x ∈ pre, Txt.startswith f (x ++ "/") = false) [("self", .d (.inst 152 (igF w m dirs di))), ("filename", .d (.str f)), ("modulename", .d (.str mn))] [(di, .tab w kvs)]
                    (fun σ1 μ1 r => r = .int 1 ∧ fresh1 m dirs (some f) mn = 1 ∧ List.lookup di μ1 = some (.tab w (kvs ++ [(mn, 1)]))) ⟨rfl, rfl, rfl, trivial⟩ ⟨mu_self, trivial⟩ (fun x hx => by simp at hx) (fun pre x post hx hp => ?_) (fun hP => ?_) (fun σ1 μ1 r hr av2 h' tk' v up' om' st' a => hret _ σ1 μ1 r hr av2 h' tk' v up' om' st' a)
                  · have hxm : x ∈ dirs := hx ▸ List.mem_append_right pre List.mem_cons_self
                    have hxl := hd.2 x hxm
                    have lsl : ("/" : Str).length = 1 := rfl
                    refine ⟨_, bind_name (.inl rfl), fun g' av1 Q' hq => ?_⟩
                    refine go_if (tr_val (Ev.t (ev_methB (Ev.t (ev_name rfl)) gm_startswith (argsT_cons (Ev.t (ev_bin (b := .str "/") (Ev.t (ev_name rfl)) (Ev.t (ev_glob rfl (.inl rfl) fun _ _ => .str _ _)) (op_cat (by rw [lsl, sizeLine_eq]; omega)))) argsT_nil) call_startswith)) ty_bool) (fun h2 => ?_) fun h2 => ?_
                    · have e3 : fresh1 m dirs (some f) mn = 1 := by
                        rw [f1]; show (if (dirs.any fun d => Txt.startswith f (d ++ "/")) = true then (1 : Int) else 0) = 1
                        rw [if_pos (List.any_eq_true.mpr ⟨x, hxm, h2⟩)]
                      exact go_setTab ev_int (ev_attr (ev_name rfl) rfl) (ev_name rfl) mu_self hl hz (hq.go_ret ev_int ⟨rfl, e3, mu_self⟩)
                    · refine hq.go_nil ⟨fun y hy => ?_, ⟨rfl, rfl, rfl, trivial⟩, ⟨mu_self, trivial⟩⟩
                      rcases List.mem_append.mp hy with hy | hy
                      · exact hp y hy
                      · cases List.mem_singleton.mp hy; exact h2
                  · have e3 : fresh1 m dirs (some f) mn = 0 := by
                      rw [f1]; show (if (dirs.any fun d => Txt.startswith f (d ++ "/")) = true then (1 : Int) else 0) = 0
                      rw [if_neg]; rw [Bool.not_eq_true, List.any_eq_false]; intro x hx; rw [hP x hx]; decide
                    rw [e3] at fin
                    exact go_setTab ev_int (ev_attr (ev_name rfl) rfl) (ev_name rfl) mu_self hl hz (fin ev_int mu_self)
end
section
section
variable {w : World} {A : Around} {env : Env} {σ σc : Sg}
theorem comp_coreS {g : Heap} {av : AV} {h0 h2 : Heap} {μ : Mu} {di : Addr} {k0 k1 : List (Str × Int)} {s : Shared} {tk : Nat} {E : Value → Shared → Prop} {scope : Scope} {cl : List (Str × Addr)} {I : Addr} {wr : List Addr} {tup : Bool} {items outs : List D} {elt target iter : Expr} {pos : Pos}
    {RR : Value → Addr → Result → Shared → Prop} (st : S w g env av h0 σ ((di, .tab w k0) :: μ)) (sees : Sees env scope cl σ σc) (hcell : ∀ y ∈ scope.names, y.2 ≠ .cell) (hk : scope.kind = .function)
    (mk : ∀ av' : AV, (∀ a, av a → av' a) → (∀ a ∈ wr, av' a) → (∀ a, av' a → av a ∨ a ∈ wr ∨ h2.get? a = none) → ∃ St, It tup w A av' I wr St items ∧ St 0 h2)
    (e0 : Ext h0 h2) (hwr : ∀ a ∈ wr, h0.get? a = none ∧ ∃ o, h2.get? a = some o)
    (loop : ∀ C, LoopOkS w A (compEnvC scope cl C env) σc (.ListComp elt [⟨target, iter, [], 0⟩] scope pos) 0 tup items di k0 k1 outs) (hz : outs.length ≤ sizeLine)
    (k : ∀ Da C h' tk' vs n m, h2.get? Da = none → h2.get? C = none → Da ≠ C → h'.get? Da = some (lstO vs n) → Ats (fun a => av a ∨ a = C) h' vs outs → h'.Ns C m → (MO.tab w k1).holds (fun _ => False) h' di → KeepBut (wr ++ [di]) h2 h' → RR (.ref Da) C (.ok .next) (upd s h' tk')) :
    wpAny (model P0 w) A (newList []) (fun acc s₃ => wpAny (model P0 w) A (newFunctionEnv scope env.globals cl [] env.qual none .none (some env)) (fun cenv s₄ =>
      codeAny (model P0 w) A (.compStart (.ListComp elt [⟨target, iter, [], 0⟩] scope pos) 0 (.ref I) acc { cenv with scope := relabel scope env }) (RR acc cenv.locals) s₄) E s₃) E (upd s h2 tk) := by
  refine wpAny_newObj_type (s := upd s h2 tk) (wpAny_newFunctionEnv hcell (by intro y hy; simp at hy) (fun h₁ hns₁ hsb₁ => ?_) hk)
  simp only [upd_heap] at hns₁ hsb₁ ⊢
  generalize hH : h2.push { cls := .type "list", dict := none, data := .seq ([] : List Value).toArray } = H at hns₁ hsb₁ ⊢
  have hC : H.objs.size = h2.objs.size + 1 := by rw [← hH, Heap.size_push]
  have nD : h2.get? h2.objs.size = none := not_here h2
  have nC : h2.get? H.objs.size = none := by
    cases q : h2.get? H.objs.size with
    | none => rfl
    | some o => have := Heap.lt_size q; rw [hC] at this; exact absurd this (Nat.not_lt.mpr (Nat.le_succ _))
  have hDC : h2.objs.size ≠ H.objs.size := by rw [hC]; exact Nat.ne_of_lt (Nat.lt_succ_self _)
  have e2 : Ext h2 h₁ := fun b o q => (hsb₁.2 b fun r => by rw [r, nC] at q; cases q).trans (Heap.get?_push_of_some _ (hH ▸ Heap.get?_push_of_some _ q))
  have hD1 : h₁.get? h2.objs.size = some (lstO [] 0) := (hsb₁.2 _ hDC).trans (Heap.get?_push_of_some _ (hH ▸ Heap.get?_push_size _ rfl))
  -- the live addresses of the comprehension
  obtain ⟨av', hav⟩ : ∃ av' : AV, ∀ a, av' a ↔ (av a ∨ a ∈ wr ∨ a = H.objs.size ∨ a = h2.objs.size) := ⟨_, fun a => Iff.rfl⟩
  obtain ⟨St, it, st0⟩ := mk av' (fun a q => (hav a).mpr (.inl q)) (fun a q => (hav a).mpr (.inr (.inl q))) (fun a q => by
    rcases (hav a).mp q with q | q | q | q
    · exact .inl q
    · exact .inr (.inl q)
    · exact .inr (.inr (q ▸ nC))
    · exact .inr (.inr (q ▸ nD)))
  have st1 : St 0 h₁ := it.frame _ _ _ st0 fun a o _ r => e2 a o r
  have dom' : ∀ a, av' a → ∃ o, h₁.get? a = some o := fun a q => by
    rcases (hav a).mp q with q | q | q | q
    · obtain ⟨o, ho⟩ := st.dom a q; exact ⟨o, e2 _ _ (e0 _ _ ho)⟩
    · exact it.alive _ _ st1 a q
    · subst q; obtain ⟨o, _, _, ho, _⟩ := hns₁; exact ⟨o, ho⟩
    · subst q; exact ⟨_, hD1⟩
  have mo : ∀ a o, ¬ av a → h0.get? a = some o → ¬ av' a ∧ h₁.get? a = some o := fun a o n q => by
    refine ⟨fun r => ?_, e2 _ _ (e0 _ _ q)⟩
    rcases (hav a).mp r with r | r | r | r
    · exact n r
    · rw [(hwr a r).1] at q; cases q
    · have := e0 _ _ q; rw [r, nC] at this; cases this
    · have := e0 _ _ q; rw [r, nD] at this; cases this
  have wrC : ∀ a ∈ wr, a ≠ H.objs.size ∧ a ≠ h2.objs.size := fun a q => by
    obtain ⟨_, o, ho⟩ := hwr a q
    exact ⟨fun r => (by rw [r, nC] at ho; cases ho), fun r => (by rw [r, nD] at ho; cases ho)⟩
  have nav : ∀ a, h2.get? a = none → ¬ av a := fun a q r => by obtain ⟨o, ho⟩ := st.dom a r; rw [e0 _ _ ho] at q; cases q
  have S1 : S w g (compEnvC scope cl H.objs.size env) av' h₁ σc ((h2.objs.size, .list []) :: (di, .tab w k0) :: μ) :=
    cenv_S st sees hk (e0.trans e2) hns₁ (not_before e0 nC) (not_before e0 nD) (Ne.symm hDC) hD1 (fun a q => (hav a).mpr (.inl q)) ((hav _).mpr (.inr (.inr (.inl rfl)))) ((hav _).mpr (.inr (.inr (.inr rfl)))) dom' mo
  have wrav : ∀ a ∈ wr, ¬ av a := fun a q r => by obtain ⟨o, ho⟩ := st.dom a r; rw [(hwr a q).1] at ho; cases ho
  have main : codeAny (model P0 w) A (.compLoop (.ListComp elt [⟨target, iter, [], 0⟩] scope pos) 0 (.ref I) (.ref h2.objs.size) (compEnvC scope cl H.objs.size env)) (RR (.ref h2.objs.size) H.objs.size) (upd s h₁ tk) := by
    have adi := (st.mu di _ mu_self).2.1
    have nDdi : h2.objs.size ≠ di := fun e => nav _ nD (e ▸ adi)
    refine (loop H.objs.size).run g av' μ h2.objs.size I wr St s h₁ tk _ it st1 S1 hz nDdi ?_ ?_ ?_
    · intro mo' q; obtain ⟨_, r, _⟩ := st.mu _ mo' (mu_skip nDdi q); exact nav _ nD r
    · intro a q
      refine ⟨(hav a).mpr (.inr (.inl q)), ?_, (wrC a q).2, fun e => wrav a q (e ▸ adi), (wrC a q).1, fun y c r t => ?_, fun mo' r => ?_⟩
      · cases r : g.get? a with
        | none => rfl
        | some o => have := st.ext _ _ r; rw [(hwr a q).1] at this; cases this
      · obtain ⟨r', _⟩ := st.ownC y c (sees.cl y c r); exact wrav a q (t ▸ r')
      · obtain ⟨_, r', _⟩ := st.mu _ mo' (mu_skip (fun e => wrav a q (by rw [e]; exact adi)) r); exact wrav a q r'
    · intro h' tk' kb S2
      obtain ⟨⟨vs, n, ho, hs⟩, _⟩ := S2.mu h2.objs.size (.list outs) (by rw [lookupM_cons, if_pos rfl])
      obtain ⟨m, hm, _⟩ := S2.ns
      have htab := (S2.mu di (.tab w k1) (mu_skip (Ne.symm nDdi) mu_self)).1
      refine k _ _ h' tk' vs n m nD nC hDC ho (hs.less fun a q => q.elim (fun q => ⟨(hav a).mpr (.inl q), fun r => wrav a r q⟩) fun q => ⟨(hav a).mpr (.inr (.inr (.inl q))), fun r => (wrC a r).1 q⟩) hm htab fun a o nq q => kb a o (fun r => ?_) (e2 _ _ q)
      rcases List.mem_append.mp r with r | r
      · exact nq (List.mem_append_left _ r)
      · rcases List.mem_cons.mp r with r | r
        · have r' : a = H.objs.size := r
          rw [r', nC] at q; cases q
        · rcases List.mem_cons.mp r with r | r
          · rw [r, nD] at q; cases q
          · exact nq (List.mem_append_right _ r)
  have fin : ∀ s', s' = upd s h₁ (tk + ([] : List (Str × Value)).length) → codeAny (model P0 w) A (.compLoop (.ListComp elt [⟨target, iter, [], 0⟩] scope pos) 0 (.ref I) (.ref h2.objs.size) (compEnvC scope cl H.objs.size env)) (RR (.ref h2.objs.size) H.objs.size) s' := by
    rintro s' rfl; exact main
  exact codeAny_compStart_list (fin _ rfl) (it.again 0 s h₁ _ _ _ st1 (fin _ rfl))

variable {μ : Mu} {g : Heap} {av₀ : AV} {s : Shared} {Q : Flow → Shared → Prop} {rest : List Stmt}
/-- a comprehension given to a plain local -/
theorem go_compS0 {di : Addr} {k0 k1 : List (Str × Int)} {x : Str} {px pos cpos : Pos} {tup : Bool} {items outs : List D} {elt target iter : Expr} {scope : Scope} {cl : List (Str × Addr)}
    (hsrc : Src tup w A env σ ((di, .tab w k0) :: μ) iter items) (hclos : closureFor scope env = pure cl) (sees : Sees env scope cl σ σc) (hcell : ∀ y ∈ scope.names, y.2 ≠ .cell) (hk : scope.kind = .function)
    (hnames : ∀ y ∈ scope.names, y.2 = .local → scope.names.lookup y.1 = some .local)
    (loop : ∀ C, LoopOkS w A (compEnvC scope cl C env) σc (.ListComp elt [⟨target, iter, [], 0⟩] scope cpos) 0 tup items di k0 k1 outs) (hz : outs.length ≤ sizeLine)
    (hx : env.kindOf x = some .local) (k : Go w A env g av₀ s Q ((x, .d (.list outs)) :: σ) ((di, .tab w k1) :: μ) rest)
    (hs : ∀ x, foldedSetIterable iter env x = pure x := by intro _; rfl)
    (hsw : swapsWith (.ListComp elt [⟨target, iter, [], 0⟩] scope cpos) (some (.Name x px)) pos.line env = pure true := by rfl) :
    Go w A env g av₀ s Q σ ((di, .tab w k0) :: μ) (.Assign [.Name x px] (.ListComp elt [⟨target, iter, [], 0⟩] scope cpos) pos :: rest) := by
  refine ⟨fun av h tk up om st => wpAny_execs_cons ?_⟩
  rw [exec_Assign_Name_used _ _ _ _ hsw, arm_evalThenUse_ListComp]
  refine wpAny_bind (wpAny_standAt (wpAny_bind ?_))
  have key : ∀ Q1 : Value → Shared → Prop, (∀ v h1 tk1, S w g env av h1 ((x, .d (.list outs)) :: σ) ((di, .tab w k1) :: μ) → Q1 v (upd s h1 tk1)) → wpAny (model P0 w) A (comprehension (.ListComp elt [⟨target, iter, [], 0⟩] scope cpos) scope env (firstIterPos [⟨target, iter, [], 0⟩] cpos) (newList []) false (firstIter [⟨target, iter, [], 0⟩] env) (some (assign (.Name x px) env))) Q1 (fun _ _ => False) (upd s h tk) := fun Q1 kq => by
    refine wpAny_comprehension_free rfl hs hclos hk hnames ?_
    refine hsrc.run g av s h tk _ _ st fun I wr h2 tk2 mk e0 hwr => ?_
    refine comp_coreS (RR := fun acc C => compPost (model P0 w) A (fun _ _ => False) (some (assign (.Name x px) env)) Q1 acc C) st sees hcell hk mk e0 hwr loop hz fun Da C h' tk' vs n m nD nC hDC hD hs' hC htab kb => ?_
    have eh : ∀ a o, a ≠ di → h.get? a = some o → h'.get? a = some o := fun a o na q => kb a o (fun r => (List.mem_append.mp r).elim (fun r => by rw [(hwr a r).1] at q; cases q) fun r => na (List.mem_singleton.mp r)) (e0 _ _ q)
    have nav : ∀ {a}, h2.get? a = none → h.get? a = none := fun {a} nD => by
      cases q : h.get? a with
      | none => rfl
      | some o => rw [e0 _ _ q] at nD; cases nD
    have dead : ∀ {a}, h.get? a = none → ¬ av a := fun nD q => by obtain ⟨o, ho⟩ := st.dom _ q; rw [ho] at nD; cases nD
    have hμ : ∀ a mo, List.lookup a ((di, MO.tab w k1) :: μ) = some mo → (a = di ∧ mo = .tab w k1) ∨ (a ≠ di ∧ List.lookup a ((di, MO.tab w k0) :: μ) = some mo) := fun a mo q => by
      rcases mu_put a mo q with r | ⟨r, q⟩
      · exact .inl r
      · exact .inr ⟨r, mu_skip r q⟩
    have hav : ∀ a mo, List.lookup a ((di, MO.tab w k1) :: μ) = some mo → av a := fun a mo q => by
      rcases hμ a mo q with ⟨rfl, _⟩ | ⟨_, q⟩
      · exact (st.mu _ _ mu_self).2.1
      · exact (st.mu a mo q).2.1
    have S1 : S w g env (fun a => av a ∨ a = C) h' σ ((di, .tab w k1) :: μ) := st.putLive (m1 := .tab w k1) mu_self eh (fun a q => .inl q) (fun a q => q.imp id fun (q : a = C) => q ▸ nav nC) (fun a q => by
      rcases q with q | q
      · by_cases e : a = di
        · subst e; exact MO.holds_some htab
        · obtain ⟨o, ho⟩ := st.dom a q; exact ⟨o, eh _ _ e ho⟩
      · subst q; obtain ⟨o, _, _, ho, _⟩ := hC; exact ⟨o, ho⟩) htab hμ
    have nDa : ¬ (av Da ∨ Da = C) := fun q => q.elim (dead (nav nD)) hDC
    have neC : ∀ {a}, av a → a ≠ C := fun q r => dead (nav nC) (r ▸ q)
    show wpAny (model P0 w) A (assign (.Name x px) env (.ref Da)) _ _ _
    refine wpAny_assign_Name (st_local (sv := .d (.list outs)) S1 (.list (n := n) nDa hD hs') hx fun h1 tk1 S2 sb => ?_)
    refine ⟨m, hC.sameBut sb (Ne.symm (neC st.ownL.1)), fun h'' sb2 => ?_⟩
    refine kq _ h'' tk1 (S2.go2 (fun b o q => (sb2.2 b fun r => ?_).trans (S2.ext b o q)) (fun a o na q => ⟨fun r => na (.inl r), (sb2.2 a fun r => na (.inr r)).trans q⟩) st.ownL.1 (fun y c q => (st.ownC y c q).1) hav (fun a q => ?_) fun a o q r => (sb2.2 a ?_).trans r)
    · have := st.ext b o q; rw [r, nav nC] at this; cases this
    · obtain ⟨o, ho⟩ := S2.dom a (.inl q); exact ⟨o, (sb2.2 a (neC q)).trans ho⟩
    · rcases q with q | ⟨y, q⟩ | ⟨mo, q⟩
      · exact neC (q ▸ st.ownL.1)
      · exact neC (st.ownC y a q).1
      · exact neC (hav a mo q)
  exact wpAny_bind (key _ fun v h1 tk1 S1 => wpAny_pure (wpAny_pure (k.run av h1 tk1 up (fun a mo q => by
    rcases mu_put a mo q with ⟨r, _⟩ | ⟨r, q⟩
    · exact r ▸ om di _ mu_self
    · exact om a _ (mu_skip r q)) S1)))
theorem go_compS {di : Addr} {k0 : List (Str × Int)} {α : Type} {inj : α → D} {V : List (Str × Int) → α → D} {T : List (Str × Int) → α → List (Str × Int)} {xs : List α} {x : Str} {px apos pos : Pos} {tup : Bool} {elt target iter : Expr} {scope : Scope} {cl : List (Str × Addr)}
    (hsrc : Src tup w A env σ ((di, .tab w k0) :: μ) iter (xs.map inj)) (hclos : closureFor scope env = pure cl) (hsa : SeesAll scope env cl σ σc) (hca : ClAll env cl)
    (hz : xs.length ≤ sizeLine)
    (item : ∀ C pre x post, xs = pre ++ x :: post → ∃ σ1, BindL w A (compEnvC scope cl C env) σc target (inj x) σ1 ∧ SubAll σ1 σc ∧ ∀ μ, μ.lookup di = some (.tab w (pre.foldl T k0)) → EvS w A (compEnvC scope cl C env) σ1 μ di (T (pre.foldl T k0) x) elt (V (pre.foldl T k0) x))
    (hx : env.kindOf x = some .local) (k : Go w A env g av₀ s Q ((x, .d (.list (outsOf V T k0 xs))) :: σ) ((di, .tab w (xs.foldl T k0)) :: μ) rest)
    (htg : tup = true → ∃ es k p, target = .Tuple es k p := by first | exact fun _ => ⟨_, _, _, rfl⟩ | (intro h; cases h))
    (hcell : ∀ y ∈ scope.names, y.2 ≠ .cell := by decide) (hk : scope.kind = .function := by rfl)
    (hnames : ∀ y ∈ scope.names, y.2 = .local → scope.names.lookup y.1 = some .local := by decide) (hs : ∀ x, foldedSetIterable iter env x = pure x := by intro _; rfl)
    (hsw : swapsWith (.ListComp elt [⟨target, iter, [], 0⟩] scope pos) (some (.Name x px)) apos.line env = pure true := by rfl) :
    Go w A env g av₀ s Q σ ((di, .tab w k0) :: μ) (.Assign [.Name x px] (.ListComp elt [⟨target, iter, [], 0⟩] scope pos) apos :: rest) :=
  go_compS0 hsrc hclos (sees_of hsa hca) hcell hk hnames (fun C => loop_mapS htg (item C)) (by rw [outsOf_len]; exact hz) hx k hs hsw
/-- x = C(..): an object and its table, both the frame's -/
theorem go_newI {x n : Str} {px p pos cpos : Pos} {e : Expr} {es : List Expr} {f C : Addr} {ds : List D} {m : Nat} {fs : Addr → List (Str × D)} {kvs : List (Str × Int)} (hA : AOk A m) (hk : env.kindOf n = some .globalImplicit) (hv : IsGlob w n (.ref f)) (ha : Args w A env σ μ (e :: es) ds) (hc : FnI w f m ds C fs kvs) (hst : Storable env x)
    (k : ∀ di, (∀ mo, μ.lookup di ≠ some mo) → Go w A env g av₀ s Q ((x, .d (.inst C (fs di))) :: σ) ((di, .tab w kvs) :: μ) rest)
    (hf : keepIn (Mine.hd.heap_1 w.params) (.ref f) = true := by rfl) (hd : (n == ("__debug__" : Str)) = false := by decide)
    (hx : ∀ env, starEach (e :: es) env = (false, eval e env) :: starEach es env := by intros; rfl) (hp : ∀ env pos, (backTo pos (starEach es env)).any (·.1) = false := by intros; rfl)
    (hq : ∀ env, eval (.Call (.Name n p) (e :: es) [] cpos) env = (do callWith cpos (← eval (.Name n p) env) [] (backTo cpos (starEach (e :: es) env)) (backToKw cpos (keywordEach [] env))) := by intros; rfl)
    (hs : swapsWith (.Call (.Name n p) (e :: es) [] cpos) (some (.Name x px)) pos.line env = pure false := by rfl) : Go w A env g av₀ s Q σ μ (.Assign [.Name x px] (.Call (.Name n p) (e :: es) [] cpos) pos :: rest) := ⟨fun av h tk up om st =>
  wpAny_execs_cons (wpAny_Assign_Name (by
    refine Call_ (ld_glob st hk hv ?_ hd) (hq env)
    rw [hx]
    refine callWith_of (P := fun h => (Mine.hd.heap_1 w.params).In h) (by show (((false || (backTo cpos (starEach es env)).any (·.1)) || false)) = false; rw [hp]; rfl) (keeps_K hf) (evalArgs_plain ?_)
    have := ha.run g av s h tk cpos (fun vs s₁ => (Mine.hd.heap_1 w.params).In s₁.heap ∧ wpAny (model P0 w) A (call (.ref f) ([] ++ vs) []) (fun v s2 => wpAny (model P0 w) A (storeName env x v) (fun _ s3 => wpAny (model P0 w) A (execs rest env) Q (fun _ _ => False) s3) (fun _ _ => False) s2) (fun _ _ => False) s₁) (fun _ _ => False) st fun vs h1 tk1 e1 a1 => ⟨(st.base.ext (st.ext.trans e1)).K, hc.run A av s h1 tk1 vs _ _ hA (st.base.ext (st.ext.trans e1)) (st.grow e1).dom a1 fun r di h2 tk2 e2 n2 ht ar => ?_⟩
    · rw [hx] at this
      exact this
    · have st1 := st.grow e1
      have nav : ¬ av di := fun q => by obtain ⟨o, ho⟩ := st1.dom di q; rw [n2] at ho; cases ho
      refine st_name (sv := .d (.inst C (fs di))) (st1.ownM e2 n2 ht) ar hst fun h3 tk3 st3 _ => ?_
      refine (k di fun mo q => nav (st.mu di mo q).2.1).run _ h3 tk3 (fun a q => .inl (up a q)) (fun a mo q => ?_) st3
      rw [lookupM_cons] at q
      split at q
      · rename_i r; exact fun t => nav (up di (r ▸ t))
      · exact om a mo q) hs)⟩
end
end
section
def dotJ (h : List Str) : Str := Txt.join "." h
def slJ (h : List Str) : Str := Txt.join "/" h
abbrev Ask := Option Str × Str
abbrev dAsk (a : Ask) : D := .tuple [dOpt a.1, .str a.2]
def askO (head : List Str) : Ask := (some ("/o/" ++ slJ head ++ "/f.py"), "o." ++ dotJ head ++ ".f")
def askedOf (head : List Str) (calls : List Ask) : List Ask := calls ++ [askO head, (none, "f")]
def kvs0 : List (Str × Int) := [("<string>", 1)]
def crook (head : List Str) : Str := "/./" ++ slJ head ++ "//q/.."
def tab1 (m : Option Str) (dirs : List Str) (k : List (Str × Int)) (xs : List Ask) : List (Str × Int) := xs.foldl (fun k a => namesT m dirs k a.1 a.2) k
def firstD (m : Option Str) (dirs : List Str) (xs : List Ask) : List D := outsOf (fun k a => .int (namesV m dirs k a.1 a.2)) (fun k a => namesT m dirs k a.1 a.2) kvs0 xs
def againD (m : Option Str) (dirs : List Str) (xs : List Ask) : List D := outsOf (fun k a => .int (namesV m dirs k none a.2)) (fun k a => namesT m dirs k none a.2) (tab1 m dirs kvs0 xs) xs
theorem namesT_len (m : Option Str) (dirs : List Str) (k : List (Str × Int)) (fn : Option Str) (mn : Str) : (namesT m dirs k fn mn).length ≤ k.length + 1 := by
  unfold namesT; split
  · omega
  · simp
theorem foldT_len (m : Option Str) (dirs : List Str) (F : Ask → Option Str) : ∀ (xs : List Ask) (k : List (Str × Int)), (xs.foldl (fun k a => namesT m dirs k (F a) a.2) k).length ≤ k.length + xs.length
  | [], k => by simp
  | a :: xs, k => by
    have h1 := foldT_len m dirs F xs (namesT m dirs k (F a) a.2)
    have h2 := namesT_len m dirs k (F a) a.2
    simp only [List.foldl_cons, List.length_cons]; omega
/-- sizes -/
structure AskOk (head : List Str) (calls : List Ask) : Prop where
  n : calls.length ≤ 100
  jd : JoinOk "." head = true
  js : JoinOk "/" head = true
  ld : (dotJ head).length ≤ 10000
  ls : (slJ head).length ≤ 10000
  norm : NormOk (crook head)
  out : (normP (crook head)).length ≤ 100000
set_option maxHeartbeats 4000000 in
theorem fn_answers0 {w : World} {head : List Str} {calls : List Ask} (ok : AskOk head calls) : Fn w 178 17 [dLS head, .list (calls.map dAsk), .int 0] (.tuple [.list (firstD (some (dotJ head)) [] (askedOf head calls)), .list (againD (some (dotJ head)) [] (askedOf head calls))]) := by
  refine fn_enter3 (a := "head") (b := "calls") (c := "kind") (by decide) (by decide) (by decide) (fun _ => .inl rfl) (fun _ => .inl rfl) (fun _ => .inl rfl) ?_
  intro A L g av s hA
  refine go_if (b := ((0 : Int) == 0)) (tr_cmp (Ev.t (ev_name rfl)) (Ev.t ev_int) cmp_eqI) (fun _ => ?_) fun h => absurd h (by decide)
  refine go_newI (n := "_Ignore") (hA.le (show 15 ≤ 16 by decide)) rfl (.inl rfl) (args_cons' (ev_list (ds := [.str (dotJ head)]) (args_cons' (ev_methB (Ev.t ev_str) gm_join (argsT_cons (Ev.t (ev_name rfl)) argsT_nil) (call_join ok.jd)) args_nil')) args_nil') (new_ignore0 (m := dotJ head)) (.inr ⟨rfl, rfl⟩) fun di hdi => ?_
  have hm : ∀ x, some (dotJ head) = some x → x.length ≤ 100000 := fun x e => by cases e; have := ok.ld; omega
  have hd : ([] : List Str).length ≤ 1000 ∧ ∀ d ∈ ([] : List Str), d.length ≤ 100000 := ⟨by decide, fun d hd => by cases hd⟩
  have hcn := ok.n
  have alen : (askedOf head calls).length ≤ 102 := by unfold askedOf; rw [List.length_append]; simp; omega
  have hls := ok.ls
  have hld := ok.ld
  have la : ("/o/" : Str).length = 3 := rfl
  have lb : ("/f.py" : Str).length = 5 := rfl
  have lc : ("o." : Str).length = 2 := rfl
  have le : (".f" : Str).length = 2 := rfl
  refine go_assign (d := .list ((askedOf head calls).map dAsk)) ?_ (.inl rfl) ?_
  · have e : D.list ((askedOf head calls).map dAsk) = .list (calls.map dAsk ++ [.tuple [.str ("/o/" ++ slJ head ++ "/f.py"), .str ("o." ++ dotJ head ++ ".f")], .tuple [.none, .str "f"]]) := by
      unfold askedOf; rw [List.map_append]; rfl
    rw [e]
    refine ev_bin (Ev.t (ev_name rfl)) (Ev.t (ev_list (args_cons' (ev_tuple (args_cons' (ev_bin (Ev.t (ev_bin (Ev.t ev_str) (Ev.t (ev_methB (Ev.t ev_str) gm_join (argsT_cons (Ev.t (ev_name rfl)) argsT_nil) (call_join ok.js))) (op_cat (by show _ + (slJ head).length ≤ _; rw [la, sizeLine_eq]; omega)))) (Ev.t ev_str) (op_cat (by show ("/o/" ++ slJ head : Str).length + _ ≤ _; rw [app_length, la, lb, sizeLine_eq]; omega))) (args_cons' (ev_bin (Ev.t (ev_bin (Ev.t ev_str) (Ev.t (ev_methB (Ev.t ev_str) gm_join (argsT_cons (Ev.t (ev_name rfl)) argsT_nil) (call_join ok.jd))) (op_cat (by show _ + (dotJ head).length ≤ _; rw [lc, sizeLine_eq]; omega)))) (Ev.t ev_str) (op_cat (by show ("o." ++ dotJ head : Str).length + _ ≤ _; rw [app_length, lc, le, sizeLine_eq]; omega))) args_nil'))) (args_cons' (ev_tuple (args_cons' ev_none (args_cons' ev_str args_nil'))) args_nil')))) (op_lists (by rw [List.length_map, sizeLine_eq]; simp; omega))
  refine go_compS (inj := dAsk) (V := fun k a => .int (namesV (some (dotJ head)) [] k a.1 a.2)) (T := fun k a => namesT (some (dotJ head)) [] k a.1 a.2) (xs := askedOf head calls) (σc := [("reader", .d (.inst 152 (igF w (some (dotJ head)) [] di)))]) (cl := [("reader", L + 1)]) (src_list hA.hd (ev_name rfl)) rfl ⟨⟨rfl, rfl, rfl, rfl⟩, trivial⟩ ⟨rfl, trivial⟩ (by rw [sizeLine_eq]; omega) (fun C pre a post hx => ?_) rfl ?_
  · refine ⟨_, bindL_tuple hA.hd (ns := ["path", "name"]) (ps := [_, _]) rfl rfl rfl (fun n hn => ?_), ⟨rfl, trivial⟩, fun μ hμ => ?_⟩
    · simp only [List.mem_cons, List.mem_nil_iff, or_false] at hn
      rcases hn with rfl | rfl <;> rfl
    · have hl := foldT_len (some (dotJ head)) [] (fun a => a.1) pre kvs0
      have hp : pre.length ≤ 102 := by have := congrArg List.length hx; simp at this; omega
      have h0 : kvs0.length = 1 := rfl
      exact evS_names (hA.le (show 10 ≤ 16 by decide)) (ev_name rfl) (ev_name rfl) (ev_name rfl) hμ (fn_names (by have h0' := hl; unfold kvs0 at h0'; simp only [List.length_cons, List.length_nil] at h0'; omega) hm hd)
  refine go_compS (inj := dAsk) (V := fun k a => .int (namesV (some (dotJ head)) [] k none a.2)) (T := fun k a => namesT (some (dotJ head)) [] k none a.2) (xs := askedOf head calls) (σc := [("reader", .d (.inst 152 (igF w (some (dotJ head)) [] di)))]) (cl := [("reader", L + 1)]) (src_list hA.hd (ev_name rfl)) rfl ⟨⟨rfl, rfl, rfl, rfl⟩, trivial⟩ ⟨rfl, trivial⟩ (by rw [sizeLine_eq]; omega) (fun C pre a post hx => ?_) rfl ?_
  · refine ⟨_, bindL_tuple hA.hd (ns := ["path", "name"]) (ps := [_, _]) rfl rfl rfl (fun n hn => ?_), ⟨rfl, trivial⟩, fun μ hμ => ?_⟩
    · simp only [List.mem_cons, List.mem_nil_iff, or_false] at hn
      rcases hn with rfl | rfl <;> rfl
    · have hl0 := foldT_len (some (dotJ head)) [] (fun a => a.1) (askedOf head calls) kvs0
      have hl := foldT_len (some (dotJ head)) [] (fun _ => none) pre ((askedOf head calls).foldl (fun k a => namesT (some (dotJ head)) [] k a.1 a.2) kvs0)
      have hp : pre.length ≤ 102 := by have := congrArg List.length hx; simp at this; omega
      have h0 : kvs0.length = 1 := rfl
      unfold kvs0 at hl hl0
      simp only [List.length_cons, List.length_nil] at hl hl0
      exact evS_names (hA.le (show 10 ≤ 16 by decide)) (ev_name rfl) ev_none (ev_name rfl) hμ (fn_names (by omega) hm hd)
  exact go_retR (ev_tuple (args_cons' (ev_name rfl) (args_cons' (ev_name rfl) args_nil')))
set_option maxHeartbeats 4000000 in
theorem fn_answers1 {w : World} {head : List Str} {calls : List Ask} (ok : AskOk head calls) : Fn w 178 17 [dLS head, .list (calls.map dAsk), .int 1] (.tuple [.list (firstD none [normP (crook head)] (askedOf head calls)), .list (againD none [normP (crook head)] (askedOf head calls))]) := by
  refine fn_enter3 (a := "head") (b := "calls") (c := "kind") (by decide) (by decide) (by decide) (fun _ => .inl rfl) (fun _ => .inl rfl) (fun _ => .inl rfl) ?_
  intro A L g av s hA
  have l3 : ("/./" : Str).length = 3 := rfl
  have l6 : ("//q/.." : Str).length = 6 := rfl
  have hls := ok.ls
  refine go_if (b := ((1 : Int) == 0)) (tr_cmp (Ev.t (ev_name rfl)) (Ev.t ev_int) cmp_eqI) (fun h => absurd h (by decide)) fun _ => ?_
  refine go_newI (n := "_Ignore") (hA.le (show 15 ≤ 16 by decide)) rfl (.inl rfl) (args_cons' ev_none (args_cons' (ev_list (ds := [.str (crook head)]) (args_cons' (ev_bin (Ev.t (ev_bin (Ev.t ev_str) (Ev.t (ev_methB (Ev.t ev_str) gm_join (argsT_cons (Ev.t (ev_name rfl)) argsT_nil) (call_join ok.js))) (op_cat (by show _ + (slJ head).length ≤ _; rw [l3, sizeLine_eq]; omega)))) (Ev.t ev_str) (op_cat (by show ("/./" ++ slJ head : Str).length + _ ≤ _; rw [app_length, l3, l6, sizeLine_eq]; omega))) args_nil')) args_nil')) (new_ignore1 ok.norm) (.inr ⟨rfl, rfl⟩) fun di hdi => ?_
  have hm : ∀ x, (none : Option Str) = some x → x.length ≤ 100000 := fun x e => by cases e
  have hd : [normP (crook head)].length ≤ 1000 ∧ ∀ d ∈ [normP (crook head)], d.length ≤ 100000 := ⟨by simp, fun d hd => by rw [List.mem_singleton.mp hd]; exact ok.out⟩
  have hcn := ok.n
  have alen : (askedOf head calls).length ≤ 102 := by unfold askedOf; rw [List.length_append]; simp; omega
  have hls := ok.ls
  have hld := ok.ld
  have la : ("/o/" : Str).length = 3 := rfl
  have lb : ("/f.py" : Str).length = 5 := rfl
  have lc : ("o." : Str).length = 2 := rfl
  have le : (".f" : Str).length = 2 := rfl
  refine go_assign (d := .list ((askedOf head calls).map dAsk)) ?_ (.inl rfl) ?_
  · have e : D.list ((askedOf head calls).map dAsk) = .list (calls.map dAsk ++ [.tuple [.str ("/o/" ++ slJ head ++ "/f.py"), .str ("o." ++ dotJ head ++ ".f")], .tuple [.none, .str "f"]]) := by
      unfold askedOf; rw [List.map_append]; rfl
    rw [e]
    refine ev_bin (Ev.t (ev_name rfl)) (Ev.t (ev_list (args_cons' (ev_tuple (args_cons' (ev_bin (Ev.t (ev_bin (Ev.t ev_str) (Ev.t (ev_methB (Ev.t ev_str) gm_join (argsT_cons (Ev.t (ev_name rfl)) argsT_nil) (call_join ok.js))) (op_cat (by show _ + (slJ head).length ≤ _; rw [la, sizeLine_eq]; omega)))) (Ev.t ev_str) (op_cat (by show ("/o/" ++ slJ head : Str).length + _ ≤ _; rw [app_length, la, lb, sizeLine_eq]; omega))) (args_cons' (ev_bin (Ev.t (ev_bin (Ev.t ev_str) (Ev.t (ev_methB (Ev.t ev_str) gm_join (argsT_cons (Ev.t (ev_name rfl)) argsT_nil) (call_join ok.jd))) (op_cat (by show _ + (dotJ head).length ≤ _; rw [lc, sizeLine_eq]; omega)))) (Ev.t ev_str) (op_cat (by show ("o." ++ dotJ head : Str).length + _ ≤ _; rw [app_length, lc, le, sizeLine_eq]; omega))) args_nil'))) (args_cons' (ev_tuple (args_cons' ev_none (args_cons' ev_str args_nil'))) args_nil')))) (op_lists (by rw [List.length_map, sizeLine_eq]; simp; omega))
  refine go_compS (inj := dAsk) (V := fun k a => .int (namesV none [normP (crook head)] k a.1 a.2)) (T := fun k a => namesT none [normP (crook head)] k a.1 a.2) (xs := askedOf head calls) (σc := [("reader", .d (.inst 152 (igF w none [normP (crook head)] di)))]) (cl := [("reader", L + 1)]) (src_list hA.hd (ev_name rfl)) rfl ⟨⟨rfl, rfl, rfl, rfl⟩, trivial⟩ ⟨rfl, trivial⟩ (by rw [sizeLine_eq]; omega) (fun C pre a post hx => ?_) rfl ?_
  · refine ⟨_, bindL_tuple hA.hd (ns := ["path", "name"]) (ps := [_, _]) rfl rfl rfl (fun n hn => ?_), ⟨rfl, trivial⟩, fun μ hμ => ?_⟩
    · simp only [List.mem_cons, List.mem_nil_iff, or_false] at hn
      rcases hn with rfl | rfl <;> rfl
    · have hl := foldT_len none [normP (crook head)] (fun a => a.1) pre kvs0
      have hp : pre.length ≤ 102 := by have := congrArg List.length hx; simp at this; omega
      have h0 : kvs0.length = 1 := rfl
      exact evS_names (hA.le (show 10 ≤ 16 by decide)) (ev_name rfl) (ev_name rfl) (ev_name rfl) hμ (fn_names (by have h0' := hl; unfold kvs0 at h0'; simp only [List.length_cons, List.length_nil] at h0'; omega) hm hd)
  refine go_compS (inj := dAsk) (V := fun k a => .int (namesV none [normP (crook head)] k none a.2)) (T := fun k a => namesT none [normP (crook head)] k none a.2) (xs := askedOf head calls) (σc := [("reader", .d (.inst 152 (igF w none [normP (crook head)] di)))]) (cl := [("reader", L + 1)]) (src_list hA.hd (ev_name rfl)) rfl ⟨⟨rfl, rfl, rfl, rfl⟩, trivial⟩ ⟨rfl, trivial⟩ (by rw [sizeLine_eq]; omega) (fun C pre a post hx => ?_) rfl ?_
  · refine ⟨_, bindL_tuple hA.hd (ns := ["path", "name"]) (ps := [_, _]) rfl rfl rfl (fun n hn => ?_), ⟨rfl, trivial⟩, fun μ hμ => ?_⟩
    · simp only [List.mem_cons, List.mem_nil_iff, or_false] at hn
      rcases hn with rfl | rfl <;> rfl
    · have hl0 := foldT_len none [normP (crook head)] (fun a => a.1) (askedOf head calls) kvs0
      have hl := foldT_len none [normP (crook head)] (fun _ => none) pre ((askedOf head calls).foldl (fun k a => namesT none [normP (crook head)] k a.1 a.2) kvs0)
      have hp : pre.length ≤ 102 := by have := congrArg List.length hx; simp at this; omega
      have h0 : kvs0.length = 1 := rfl
      unfold kvs0 at hl hl0
      simp only [List.length_cons, List.length_nil] at hl hl0
      exact evS_names (hA.le (show 10 ≤ 16 by decide)) (ev_name rfl) ev_none (ev_name rfl) hμ (fn_names (by omega) hm hd)
  exact go_retR (ev_tuple (args_cons' (ev_name rfl) (args_cons' (ev_name rfl) args_nil')))
end
section
theorem cmp_isIB {w : World} {A : Around} {i : Int} {b : Bool} : CmpD w A .Is (.int i) (.bool b) false := ⟨fun av s h tk u v Q E dm x y k => by
  have := y.bool; subst this; obtain ⟨t, rfl⟩ := x.int
  show wpAny _ A (do return .bool (← isSame (.int i t) (.bool b))) Q E _
  have e : isSame (.int i t) (.bool b) = pure false := by cases b <;> rfl
  rw [e]; exact wpAny_bind (wpAny_pure (wpAny_pure (k h tk (Ext.refl h))))⟩
def toldS (script : List Int) : List Int := (script ++ [2, 3, 4]).map fun x : Int => x.fmod 5
def ksOf (script : List Int) : List Int := (zints 0 5).filter fun k => (((toldS script).count k : Nat) : Int).fmod 2 == 1
def rowB (base : Int) (ks : List Int) : List Int := base :: ks.map fun k => base + k + 1
abbrev tsOf (row : List Int) : List (List (List Int)) := towers 5 row
def namesOf (row : List Int) : List (List Str) := (tsOf row).map (partsOf row)
def callOf (p : List Str) : Ask := (some ("/" ++ slJ p ++ "/f.py"), dotJ p)
def callsOf (row : List Int) : List Ask := (namesOf row).map callOf
def hsOf (row : List Int) : List Head := headsOf row (tsOf row) (namesOf row)
def dueOf (row : List Int) (h : Head) : List Int := ((namesOf row).map fun p => if p.take h.1.length == h.1 then 1 else 0) ++ [0, 1]
def takenOf (row : List Int) (h : Head) : List (List (List Int)) := (((tsOf row).zip (dueOf row h)).filter fun p => p.2 == 1).map fun p => p.1.drop (h.1.length - 1)
def cells (t : List (List Int)) : List Int := t.flatMap fun one => one
def sumsOf (ts : List (List (List Int))) : List Int := ts.map fun t => (cells t).sum
structure HeadOk (row : List Int) (h : Head) : Prop where
  len : 1 ≤ h.1.length ∧ h.1.length ≤ 100
  txts : ∀ x ∈ h.1, PyData.strOk x = true
  ask : AskOk h.1 (callsOf row)
  f0 : firstD (some (dotJ h.1)) [] (askedOf h.1 (callsOf row)) = (dueOf row h).map .int
  a0 : againD (some (dotJ h.1)) [] (askedOf h.1 (callsOf row)) = (dueOf row h).map .int
  f1 : firstD none [normP (crook h.1)] (askedOf h.1 (callsOf row)) = (dueOf row h).map .int
  a1 : againD none [normP (crook h.1)] (askedOf h.1 (callsOf row)) = (dueOf row h).map .int
  taken : ∀ t ∈ takenOf row h, (cells t).length ≤ 1000
  dealt : DealtOk h.2 (sumsOf (takenOf row h))
structure LawOk (row : List Int) : Prop where
  tow : TowOk 5 row
  tl : (tsOf row).length ≤ 100
  parts : ∀ t ∈ tsOf row, t.length ≤ 100 ∧ PartsOk row t
  names : ∀ p ∈ namesOf row, p.length ≤ 100 ∧ (∀ x ∈ p, PyData.strOk x = true) ∧ JoinOk "." p = true ∧ JoinOk "/" p = true ∧ (dotJ p).length ≤ 10000 ∧ (slJ p).length ≤ 10000
  heads : ∀ h ∈ hsOf row, HeadOk row h

theorem fn_answers {w : World} {row : List Int} {h : Head} (ok : HeadOk row h) (i : Int) : Fn w 178 17 [dLS h.1, .list ((callsOf row).map dAsk), .int (i.fmod 2)] (.tuple [dLI (dueOf row h), dLI (dueOf row h)]) := by
  have : i.fmod 2 = 0 ∨ i.fmod 2 = 1 := by rw [Int.fmod_eq_emod_of_nonneg _ (by decide)]; omega
  rcases this with e | e
  · rw [e]; have := fn_answers0 (w := w) ok.ask; rw [ok.f0, ok.a0] at this; exact this
  · rw [e]; have := fn_answers1 (w := w) ok.ask; rw [ok.f1, ok.a1] at this; exact this
abbrev sigL (base : Int) (row : List Int) : Sg := [("base", .d (.int base)), ("towers", .d (dLLLI (tsOf row))), ("names", .d (.list ((namesOf row).map dLS))), ("calls", .d (.list ((callsOf row).map dAsk))), ("heads", .d (.list ((hsOf row).map dH)))]
set_option maxHeartbeats 8000000 in
theorem fn_law {w : World} {script : List Int} (hz : script.length ≤ 63) (ok : LawOk (rowB script.sum (ksOf script))) : Fn w 203 18 [dLI script] (.bool true) := by
  refine fn_enter1 (a := "script") (fun _ => .inl rfl) ?_
  intro A L g av s hA
  have h7 := hA.le (show 7 ≤ 17 by decide)
  obtain ⟨base, hbase⟩ : ∃ b, b = script.sum := ⟨_, rfl⟩
  obtain ⟨row, hrow⟩ : ∃ r, r = rowB base (ksOf script) := ⟨_, rfl⟩
  rw [← hbase, ← hrow] at ok
  refine go_assign (d := dLI (toldS script)) ?_ (.inr ⟨rfl, rfl⟩) ?_
  · have e : dLI (toldS script) = .list ((script ++ [2, 3, 4]).map fun x : Int => D.int (x.fmod 5)) := by simp [toldS]
    have e2 : (script ++ [2, 3, 4]).map D.int = script.map D.int ++ [.int 2, .int 3, .int 4] := by simp
    rw [e]
    refine ev_comp1m (inj := .int) (σc := []) (cl := []) (by rw [e2]; exact src_list hA.hd (ev_bin (Ev.t (ev_name rfl)) (Ev.t (ev_list (args_cons' ev_int (args_cons' ev_int (args_cons' ev_int args_nil'))))) (op_lists (by rw [List.length_map, sizeLine_eq]; simp; omega)))) rfl trivial trivial (by rw [List.length_append, sizeLine_eq]; simp; omega) fun C x hx => ?_
    exact ⟨_, bindL_name rfl, trivial, fun μ => ev_bin (Ev.t (ev_name rfl)) (Ev.t ev_int) (op_mod (by decide))⟩
  refine go_assign (d := .int base) (by rw [hbase]; exact ev_callB rfl gl_sum (argsT_cons (Ev.t (ev_name rfl)) argsT_nil) (call_sumL hA.hd)) (.inr ⟨rfl, rfl⟩) ?_
  have ksl : (ksOf script).length ≤ 5 := Nat.le_trans (List.length_filter_le _ _) (Nat.le_of_eq (ints_length _ _))
  refine go_assign (d := dLI row) ?_ (.inr ⟨rfl, rfl⟩) ?_
  · have e : dLI row = .list ([.int base] ++ ((zints 0 (5 : Int).toNat).filter fun k => (((toldS script).count k : Nat) : Int).fmod 2 == 1).map fun k => .int (base + k + 1)) := by
      rw [hrow]; simp [rowB, ksOf]
    rw [e]
    refine ev_bin (Ev.t (ev_list (args_cons' (ev_name rfl) args_nil'))) (Ev.t (ev_comp1 (inj := .int) (σc := [("base", .d (.int base)), ("told", .d (dLI (toldS script)))]) (cl := [("told", L + 1), ("base", L + 2)]) (ev_range hA.hd rfl (Ev.t ev_int) (by decide)) rfl ⟨⟨rfl, rfl, rfl, rfl⟩, ⟨rfl, rfl, rfl, rfl⟩, trivial⟩ ⟨rfl, rfl, trivial⟩ (by rw [ints_length, sizeLine_eq]; decide) fun C k hk => ?_)) (op_lists (by
      have : ((zints 0 (5 : Int).toNat).filter fun k => (((toldS script).count k : Nat) : Int).fmod 2 == 1).length ≤ 5 := ksl
      rw [List.length_map, sizeLine_eq]; simp only [List.length_cons, List.length_nil]; omega))
    exact ⟨_, bindL_name rfl, ⟨rfl, rfl, trivial⟩, fun μ => ifs_one (tr_cmp (Ev.t (ev_bin (Ev.t (ev_methB (Ev.t (ev_name rfl)) gm_count (argsT_cons (Ev.t (ev_name rfl)) argsT_nil) call_count)) (Ev.t ev_int) (op_mod (by decide)))) (Ev.t ev_int) cmp_eqI), fun _ μ => ev_bin (Ev.t (ev_bin (Ev.t (ev_name rfl)) (Ev.t (ev_name rfl)) op_add)) (Ev.t ev_int) op_add⟩
  refine go_assign (ev_callF (hA.le (show 5 + 7 ≤ 17 by decide)) rfl (.inl rfl) (args_cons' (ev_name rfl) args_nil') (fn_towers 5 row ok.tow)) (.inl rfl) ?_
  have tl := ok.tl
  have nl : (namesOf row).length ≤ 100 := by unfold namesOf; rw [List.length_map]; exact tl
  refine go_comp1m (inj := dLLI) (xs := tsOf row) (f := fun t => dLS (partsOf row t)) (σc := [("row", .d (dLI row))]) (cl := [("row", L + 3)]) (src_list hA.hd (ev_name rfl)) rfl ⟨⟨rfl, rfl, rfl, rfl⟩, trivial⟩ ⟨rfl, trivial⟩ (by rw [sizeLine_eq]; omega) (fun C t ht => ?_) rfl ?_
  · obtain ⟨t1, t2⟩ := ok.parts t ht
    exact ⟨_, bindL_name rfl, ⟨rfl, trivial⟩, fun μ => ev_callF h7 rfl (.inl rfl) (args_cons' (ev_name rfl) (args_cons' (ev_name rfl) args_nil')) (fn_parts (by omega) t2)⟩
  have en : (tsOf row).map (fun t => dLS (partsOf row t)) = (namesOf row).map dLS := by simp [namesOf]
  rw [en]
  refine go_comp1m (inj := dLS) (xs := namesOf row) (f := fun p => dAsk (callOf p)) (σc := []) (cl := []) (src_list hA.hd (ev_name rfl)) rfl trivial trivial (by rw [sizeLine_eq]; omega) (fun C p hp => ?_) rfl ?_
  · obtain ⟨p1, p2, p3, p4, p5, p6⟩ := ok.names p hp
    have la : ("/" : Str).length = 1 := rfl
    have lb : ("/f.py" : Str).length = 5 := rfl
    refine ⟨_, bindL_name rfl, trivial, fun μ => ?_⟩
    exact ev_tuple (args_cons' (ev_bin (Ev.t (ev_bin (Ev.t ev_str) (Ev.t (ev_methB (Ev.t ev_str) gm_join (argsT_cons (Ev.t (ev_name rfl)) argsT_nil) (call_join p4))) (op_cat (by show _ + (slJ p).length ≤ _; rw [la, sizeLine_eq]; omega)))) (Ev.t ev_str) (op_cat (by show ("/" ++ slJ p : Str).length + _ ≤ _; rw [app_length, la, lb, sizeLine_eq]; omega))) (args_cons' (ev_methB (Ev.t ev_str) gm_join (argsT_cons (Ev.t (ev_name rfl)) argsT_nil) (call_join p3)) args_nil'))
  have ec : (namesOf row).map (fun p => dAsk (callOf p)) = (callsOf row).map dAsk := by simp [callsOf]
  rw [ec]
  refine go_assign (ev_callF (hA.le (show 9 ≤ 17 by decide)) rfl (.inl rfl) (args_cons' (ev_name rfl) (args_cons' (ev_name rfl) (args_cons' (ev_name rfl) args_nil'))) (fn_heads (row := row) (ts := tsOf row) (ns := namesOf row) (by omega) (fun p hp => (ok.names p hp).2.1) fun p hp => by have := (ok.names p hp).1; omega)) (.inl rfl) ?_
  have hl : (hsOf row).length ≤ 101 := by
    have := (heads_len ((tsOf row).zip (namesOf row)) [(["r"], row)]).2
    rw [List.length_zip] at this
    show (headsTo _ _).length ≤ _
    simp at this; omega
  refine go_forN (inj := .int) (xs := zints 0 ((hsOf row).length : Int).toNat) (ev_range hA.hd rfl (Ev.t (ev_len (f := dH) (xs := hsOf row) rfl (Ev.t (ev_name rfl)) (by omega))) (by omega)) (fun _ => sigL base row) (fun _ => []) (fun _ => False) ⟨rfl, rfl, rfl, rfl, rfl, trivial⟩ trivial (fun pre place post hx => ?_) (go_retR ev_bool) (fun _ z => z.elim)
  refine ⟨_, bind_name (.inl rfl), fun g' av1 Q' hq => ?_⟩
  have hp := (mem_ints _ _ _).mp (hx ▸ List.mem_append_right pre (List.mem_cons_self) : place ∈ zints 0 ((hsOf row).length : Int).toNat)
  have hlt : place.toNat < (hsOf row).length := by omega
  obtain ⟨h, hh⟩ : ∃ h, (hsOf row)[place.toNat]? = some h := ⟨_, List.getElem?_eq_getElem hlt⟩
  have hget : ((hsOf row).map dH)[place.toNat]? = some (dH h) := by rw [List.getElem?_map, hh]; rfl
  have hok := ok.heads h (List.mem_of_getElem? hh)
  obtain ⟨hl1, hl2⟩ := hok.len
  refine go_unpack (d := dH h) (ev_sub (Ev.t (ev_name rfl)) (Ev.t (ev_name rfl)) (ItemD.list (by omega) (by omega) hget)) (bind_tuple hA.hd (ns := ["head", "numbers"]) (ps := [_, _]) rfl rfl rfl (fun n hn => ?_)) ?_
  · simp only [List.mem_cons, List.mem_nil_iff, or_false] at hn
    rcases hn with rfl | rfl
    · exact .inr ⟨rfl, rfl⟩
    · exact .inl rfl
  refine go_assign (ev_len (f := .str) (xs := h.1) rfl (Ev.t (ev_name rfl)) (by omega)) (.inr ⟨rfl, rfl⟩) ?_
  refine go_unpack (d := .tuple [dLI (dueOf row h), dLI (dueOf row h)]) (ev_callF hA rfl (.inl rfl) (args_cons' (ev_name rfl) (args_cons' (ev_name rfl) (args_cons' (ev_bin (Ev.t (ev_bin (Ev.t (ev_name rfl)) (Ev.t (ev_name rfl)) op_add)) (Ev.t ev_int) (op_mod (by decide))) args_nil'))) (fn_answers hok _)) (bind_tuple hA.hd (ns := ["first", "again"]) (ps := [_, _]) rfl rfl rfl (fun n hn => ?_)) ?_
  · simp only [List.mem_cons, List.mem_nil_iff, or_false] at hn
    rcases hn with rfl | rfl
    · exact .inl rfl
    · exact .inl rfl
  have dl : (dueOf row h).length ≤ 102 := by unfold dueOf; rw [List.length_append, List.length_map]; simp; omega
  have zl : ((tsOf row).zip (dueOf row h)).length ≤ 100 := by rw [List.length_zip]; omega
  refine go_comp1 (inj := fun p => .tuple [dLLI p.1, .int p.2]) (xs := (tsOf row).zip (dueOf row h)) (p := fun p => p.2 == 1) (f := fun p => dLLI (p.1.drop (h.1.length - 1))) (σc := [("depth", .d (.int h.1.length))]) (cl := [("depth", L + 5)]) (src_zipM (f := dLLI) (g := .int) hA.hd rfl gl_zip (ev_name rfl) (ev_name rfl)) rfl ⟨⟨rfl, rfl, rfl, rfl⟩, trivial⟩ ⟨rfl, trivial⟩ (by rw [sizeLine_eq]; omega) (fun C p hp => ?_) rfl ?_
  · have hpt := (ok.parts p.1 (List.of_mem_zip hp).1).1
    refine ⟨_, bindL_tuple hA.hd (ns := ["tower", "answer"]) (ps := [_, _]) rfl rfl rfl (fun n hn => ?_), ⟨rfl, trivial⟩, fun μ => ifs_one (tr_cmp (Ev.t (ev_name rfl)) (Ev.t ev_int) cmp_eqI), fun _ μ => ?_⟩
    · simp only [List.mem_cons, List.mem_nil_iff, or_false] at hn
      rcases hn with rfl | rfl <;> rfl
    · have e : dLLI (p.1.drop (h.1.length - 1)) = .list ((p.1.map dLI).drop (h.1.length - 1)) := by simp
      have e2 : ((h.1.length - 1 : Nat) : Int) = (h.1.length : Int) - 1 := by omega
      rw [e]
      exact ev_drop (n := h.1.length - 1) (Ev.t (ev_name rfl)) (by rw [e2]; exact Ev.t (ev_bin (Ev.t (ev_name rfl)) (Ev.t ev_int) op_sub)) (by rw [List.length_map, sizeLine_eq]; omega)
  have et : (((tsOf row).zip (dueOf row h)).filter fun p => p.2 == 1).map (fun p => dLLI (p.1.drop (h.1.length - 1))) = (takenOf row h).map dLLI := by simp [takenOf]
  rw [et]
  have tkl : (takenOf row h).length ≤ 100 := by unfold takenOf; rw [List.length_map]; exact Nat.le_trans (List.length_filter_le _ _) zl
  refine go_if (b := !true) (tr_not (tr_val (Ev.t (ev_callF (hA.le (show 12 ≤ 17 by decide)) rfl (.inl rfl) (args_cons' (ev_name rfl) (args_cons' (d := dLI (sumsOf (takenOf row h))) ?_ args_nil')) (fn_dealt hok.dealt))) ty_bool)) (fun h => by cases h) fun _ => ?_
  · have e : dLI (sumsOf (takenOf row h)) = .list ((takenOf row h).map fun t => .int (cells t).sum) := by simp [sumsOf]
    rw [e]
    refine ev_comp1m (inj := dLLI) (σc := []) (cl := []) (src_list hA.hd (ev_name rfl)) rfl trivial trivial (by rw [sizeLine_eq]; omega) fun C t ht => ?_
    have hc := hok.taken t ht
    refine ⟨_, bindL_name rfl, trivial, fun μ => ev_callB rfl gl_sum (argsT_cons (Ev.t ?_) argsT_nil) (call_sumL hA.hd (ns := cells t))⟩
    have e : D.list ((cells t).map .int) = .list (t.flatMap fun one => (one.map fun y => D.int y)) := by unfold cells; rw [List.map_flatMap]
    rw [e]
    refine ev_comp2 (inj := dLI) (injB := .int) (ys := fun one => one) (f := fun _ y => D.int y) (σc := []) (cl := []) (src_list hA.hd (ev_name rfl)) rfl trivial trivial ?_ fun C2 one ho => ?_
    · have : (t.flatMap fun one => (one.map fun y => D.int y)) = (cells t).map .int := (D.list.inj e).symm
      rw [this, List.length_map, sizeLine_eq]; omega
    · exact ⟨_, bindL_name rfl, trivial, fun μ => src_list hA.hd (ev_name rfl), fun y hy => ⟨_, bindL_name rfl, ⟨rfl, trivial⟩, fun μ => ev_name rfl⟩⟩
  refine go_assign (d := dLI (dueOf row h)) ?_ (.inl rfl) ?_
  · have e : dLI (dueOf row h) = .list (((namesOf row).map fun p => D.int (if p.take h.1.length == h.1 then 1 else 0)) ++ [.int 0, .int 1]) := by simp [dueOf]
    rw [e]
    refine ev_bin (Ev.t (ev_comp1m (inj := dLS) (σc := [("depth", .d (.int h.1.length)), ("head", .d (dLS h.1))]) (cl := [("head", L + 4), ("depth", L + 5)]) (src_list hA.hd (ev_name rfl)) rfl ⟨⟨rfl, rfl, rfl, rfl⟩, ⟨rfl, rfl, rfl, rfl⟩, trivial⟩ ⟨rfl, rfl, trivial⟩ (by rw [sizeLine_eq]; omega) fun C p hp => ?_)) (Ev.t (ev_list (args_cons' ev_int (args_cons' ev_int args_nil')))) (op_lists (by rw [List.length_map, sizeLine_eq]; simp; omega))
    obtain ⟨p1, p2, _⟩ := ok.names p hp
    have e3 : (p.map D.str).take h.1.length = (p.take h.1.length).map D.str := by simp [List.map_take]
    refine ⟨_, bindL_name rfl, ⟨rfl, rfl, trivial⟩, fun μ => ev_ifexp (c := (p.take h.1.length == h.1)) (tr_cmp (a := dLS (p.take h.1.length)) (Ev.t ?_) (Ev.t (ev_name rfl)) (cmp_eqE h7 (ok_strs 8 _ fun x hx => p2 x (List.mem_of_mem_take hx)) (ok_strs 8 _ hok.txts) ?_)) (fun hc => ?_) fun hc => ?_⟩
    · rw [show dLS (p.take h.1.length) = .list ((p.map D.str).take h.1.length) from by rw [e3]]
      exact ev_take (n := h.1.length) (Ev.t (ev_name rfl)) (Ev.t (ev_name rfl)) (by rw [List.length_map, sizeLine_eq]; omega)
    · rw [beq_iff_eq]; exact ⟨fun e => by rw [e], fun e => dLS_inj e⟩
    · rw [if_pos hc]; exact ev_int
    · rw [hc]; exact ev_int
  have okd : D.ok 9 (dLI (dueOf row h)) = true := ok_ints 8 _
  refine go_if (b := (!true || (!true || false))) (tr_bool (or_cons (tr_cmp (Ev.t (ev_name rfl)) (Ev.t (ev_name rfl)) (cmp_neE h7 okd okd ⟨fun _ => rfl, fun _ => rfl⟩)) fun _ => or_cons (tr_cmp (Ev.t (ev_name rfl)) (Ev.t (ev_name rfl)) (cmp_neE h7 okd okd ⟨fun _ => rfl, fun _ => rfl⟩)) fun _ => or_nil)) (fun h => by cases h) fun _ => ?_
  refine go_if (b := !true) (tr_cmp (Ev.t (ev_comp1 (inj := .int) (xs := dueOf row h) (p := fun _ => false) (f := .int) (σc := []) (cl := []) (src_list hA.hd (ev_name rfl)) rfl trivial trivial (by rw [sizeLine_eq]; omega) fun C x hx => ?_)) (Ev.t (ev_list (ds := []) args_nil')) (cmp_neE h7 (ok_ints 8 _) rfl ?_)) (fun h => by cases h) fun _ => ?_
  · exact ⟨_, bindL_name rfl, trivial, fun μ => ifs_one (tr_bool (or_cons (tr_cmp (Ev.t (ev_name rfl)) (Ev.t ev_bool) cmp_isIB) fun _ => or_cons (tr_cmp (Ev.t (ev_name rfl)) (Ev.t ev_bool) cmp_isIB) fun _ => or_nil)), fun e => by cases e⟩
  · simp
  exact hq.go_nil ⟨⟨rfl, rfl, rfl, rfl, rfl, trivial⟩, trivial⟩
end
section
theorem well_ints {P : Params} {av : AV} {h : Heap} : ∀ {vs : List Value} {ns : List Int}, WellAll P h vs (ofPys (ns.map .int)) → Ats av h vs (ns.map .int)
  | _, [], .nil => .nil
  | _, n :: ns, .cons (.int _ t) hs => .cons (.int _ _) (well_ints hs)
set_option maxHeartbeats 8000000 in
theorem top_of (n : Nat) (hn : n ≤ 100) (L : ∀ (w : World) (script : List Int), script.length ≤ 63 → Fn w 203 n [.list (script.map .int)] (.bool true)) : PySem.Challenge.rw_kl0297_01.Holds := by
  refine Mine.hd ?_
  k_fill
  intro w s₀ s₁ mg mb G Y fa o pm cd doc dV kV ho hd hcd hD hmg hg args vals as hpre hlay hrd hwl hlo
  have KX := kIn_of Y
  refine Ground.open G ?_
  intro T B D TE TW
  have hwl2 := hwl
  wrow_args hpre hlay hrd hwl hlo
  rename_i _ _ _ hcond _
  clear hd hcd ho Y hD
  have e0 : mg "law" = some (.ref 203) := mg_of KX T.g (by rfl)
  have hmg' : mg "law" = some (.ref fa) := hmg
  rw [e0] at hmg'
  cases hmg'
  have B0 : GB w s₁.heap := ⟨KX, ⟨mg, mb, T.g, T.b, T.builtins⟩, T.nolimit⟩
  cases hwl2 with
  | cons hv _ =>
    cases hv with
    | list ho hws =>
      have hA : AOk callerA n := ⟨rfl, by show 1 + 300 + n < 1000; omega, by show 4 + 10 * n < 9900; omega⟩
      refine (?_ : ∀ s2, s2 = s₁ → wpAny _ callerA _ _ _ s2) s₁ rfl
      intro s2 e2
      have es : s2 = upd s₁ s₁.heap s₁.toks := by rw [e2]; cases s₁; rfl
      rw [es]
      refine (L w _ (by omega)).run callerA (fun _ => False) s₁ s₁.heap s₁.toks [.ref _] _ _ hA B0 (fun a q => q.elim) (.cons (.list (n := 0) (fun q => q) ho (well_ints hws)) .nil) fun r h' tk' e a => ?_
      cases a
      refine GoodW.toG ⟨.inl ⟨_, .bool true, [], rfl, fun _ => rfl, .bool _, ?_, fun _ => ⟨List.nodup_nil, fun a h => by cases h⟩⟩, fun b o q => e b o q, rfl, hg⟩
      refine postC_of (r := PySem.Challenge.rw_kl0297_01.row.toRowW) (X := true) (by rfl) ?_ rfl
      show WTm.value _ (WTm.eq .res (.lit (.bool true))) _ = _
      simp [WTm.value]
      decide +kernel
end
section
/-- a row moved by b -/
def sh (b : Int) (row : List Int) : List Int := row.map fun x => b + x
theorem sh_len (b : Int) (row : List Int) : (sh b row).length = row.length := by simp [sh]
theorem ix_sh {b : Int} {row : List Int} {k : Int} (h0 : 0 ≤ k) (h1 : k < row.length) : ix (sh b row) k = b + ix row k := by
  have h : k.toNat < row.length := by omega
  simp [ix, sh, List.getD, h]
theorem sh_snoc (b : Int) (row : List Int) (x : Int) : sh b (row ++ [x]) = sh b row ++ [b + x] := by simp [sh]
theorem sh_inj {b : Int} {x y : List Int} (h : sh b x = sh b y) : x = y := map_inj' (fun _ _ e => Int.add_left_cancel e) _ _ h
theorem sh_sh (a b : Int) (row : List Int) : sh a (sh b row) = sh (a + b) row := by
  simp only [sh, List.map_map]
  exact List.map_congr_left fun x _ => by simp only [Function.comp]; omega
theorem flatMap_congr' {α β : Type} {f g : α → List β} : ∀ {l : List α}, (∀ x ∈ l, f x = g x) → l.flatMap f = l.flatMap g
  | [], _ => rfl
  | x :: l, h => by rw [List.flatMap_cons, List.flatMap_cons, h x (.head _), flatMap_congr' fun y hy => h y (.tail _ hy)]
theorem belowTo_sh {b : Int} {row : List Int} : ∀ (ks : List Int) (acc : List (List Int)), (∀ k ∈ ks, 0 ≤ k ∧ k + 1 < row.length) →
    ks.foldl (fun below k => below.flatMap fun done => (zints 0 (ix (sh b row) (k + 1) - ix (sh b row) k).toNat).map fun step => done ++ [ix (sh b row) k + step]) (acc.map (sh b)) =
    (ks.foldl (fun below k => below.flatMap fun done => (zints 0 (ix row (k + 1) - ix row k).toNat).map fun step => done ++ [ix row k + step]) acc).map (sh b)
  | [], acc, _ => rfl
  | k :: ks, acc, h => by
    obtain ⟨k0, k1⟩ := h k (.head _)
    simp only [List.foldl_cons]
    rw [← belowTo_sh ks _ fun k hk => h k (.tail _ hk)]
    congr 1
    rw [List.flatMap_map, List.map_flatMap]
    refine flatMap_congr' fun done _ => ?_
    rw [List.map_map, ix_sh (by omega) (by omega), ix_sh (by omega) (by omega)]
    have e : b + ix row (k + 1) - (b + ix row k) = ix row (k + 1) - ix row k := by omega
    rw [e]
    refine List.map_congr_left fun step _ => ?_
    simp only [Function.comp, sh_snoc]
    congr 2; omega
theorem belowTo_sh' {b : Int} {row ks : List Int} (h : ∀ k ∈ ks, 0 ≤ k ∧ k + 1 < row.length) : belowTo (sh b row) ks = (belowTo row ks).map (sh b) := belowTo_sh ks [[]] h
theorem below_sh (b : Int) (row : List Int) : below (sh b row) = (below row).map (sh b) := by
  unfold below
  rw [sh_len]
  exact belowTo_sh' fun k hk => by rw [mem_ints] at hk; omega
theorem towers_sh (b : Int) : ∀ (n : Nat) (row : List Int), towers n (sh b row) = (towers n row).map (List.map (sh b))
  | 0, _ => rfl
  | n + 1, row => by
    show (if ((sh b row).length : Int) < 2 then _ else _) = (if (row.length : Int) < 2 then _ else _ : List (List (List Int))).map _
    rw [sh_len, below_sh]
    split
    · rfl
    · rw [List.flatMap_map, List.map_flatMap]
      refine flatMap_congr' fun one _ => ?_
      rw [towers_sh b n one, List.map_map, List.map_map]; rfl
theorem partStr_sh {b : Int} {above one : List Int} (h : one.length ≤ above.length) : partStr (sh b above) (sh b one) = partStr above one := by
  unfold partStr partPieces
  rw [sh_len]
  congr 1
  refine List.map_congr_left fun k hk => ?_
  rw [mem_ints] at hk
  rw [ix_sh (by omega) (by omega), ix_sh (by omega) (by omega)]
  congr 1; omega
theorem partsFrom_sh {b : Int} : ∀ {above : List Int} {t : List (List Int)}, PartsOk above t → partsFrom (sh b above) (t.map (sh b)) = partsFrom above t
  | _, [], _ => rfl
  | above, one :: r, h => by
    simp only [List.map_cons, partsFrom]
    rw [partStr_sh h.2.1, partsFrom_sh h.2.2.2.2]
theorem partsOf_sh {b : Int} {row : List Int} {t : List (List Int)} (h : PartsOk row t) : partsOf (sh b row) (t.map (sh b)) = partsOf row t := by
  unfold partsOf; rw [partsFrom_sh h]
theorem PartsOk.sh {b : Int} : ∀ {above : List Int} {t : List (List Int)}, PartsOk above t → PartsOk (KL.sh b above) (t.map (KL.sh b))
  | _, [], _ => trivial
  | above, one :: r, h => by
    obtain ⟨h1, h2, h3, h4, h5⟩ := h
    refine ⟨by rw [sh_len]; exact h1, by rw [sh_len, sh_len]; exact h2, by rw [sh_len]; exact h3, fun k k0 k1 => ?_, PartsOk.sh h5⟩
    rw [sh_len] at k1
    have := h4 k k0 k1
    rw [ix_sh k0 k1, ix_sh k0 (by omega)]; omega
theorem TowOk.sh {b : Int} : ∀ {n : Nat} {row : List Int}, TowOk n row → TowOk n (KL.sh b row)
  | 0, row, h => by show (KL.sh b row).length < 2; rw [sh_len]; exact h
  | n + 1, row, h => by
    obtain ⟨h1, h2⟩ := h
    refine ⟨by rw [sh_len]; exact h1, fun hl => ?_⟩
    rw [sh_len] at hl
    obtain ⟨a, c, d, e, f⟩ := h2 hl
    refine ⟨fun k k0 k1 => ?_, fun pre post hp => ?_, ?_, fun one ho => ?_, fun t ht => ?_⟩
    · rw [sh_len] at k1
      have := a k k0 k1
      rw [ix_sh (by omega) (by omega), ix_sh (by omega) (by omega)]; omega
    · rw [sh_len] at hp
      rw [belowTo_sh' fun k hk => ?_, List.length_map]
      · exact c pre post hp
      · have : k ∈ zints 0 ((row.length : Int) - 1).toNat := hp ▸ List.mem_append_left _ hk
        rw [mem_ints] at this; omega
    · rw [towers_sh, List.length_map]; exact d
    · rw [below_sh] at ho
      obtain ⟨one', ho', rfl⟩ := List.mem_map.mp ho
      obtain ⟨g1, g2⟩ := e one' ho'
      exact ⟨by rw [sh_len]; exact g1, TowOk.sh g2⟩
    · rw [towers_sh] at ht
      obtain ⟨t', ht', rfl⟩ := List.mem_map.mp ht
      rw [List.length_map]; exact f t' ht'

/-! heads -/
abbrev shT (b : Int) (t : List (List Int)) : List (List Int) := t.map (sh b)
def shH (b : Int) (h : Head) : Head := (h.1, sh b h.2)
theorem headsStep_sh (b : Int) (hs : List Head) (tower : List (List Int)) (parts : List Str) : headsStep (hs.map (shH b)) (shT b tower) parts = (headsStep hs tower parts).map (shH b) := by
  have e1 : (shT b tower == []) = (tower == []) := by cases tower <;> rfl
  have e2 : (shT b tower).headD [] = sh b (tower.headD []) := by cases tower <;> rfl
  have e3 : (hs.map (shH b)).getLastD ([], []) = shH b (hs.getLastD ([], [])) := by
    rw [List.getLastD_eq_getLast?, List.getLastD_eq_getLast?, List.getLast?_map]
    cases hs.getLast? <;> rfl
  have e4 : (shH b (hs.getLastD ([], [])) == (parts.take 2, sh b (tower.headD []))) = (hs.getLastD ([], []) == (parts.take 2, tower.headD [])) := by
    rw [Bool.eq_iff_iff, beq_iff_eq, beq_iff_eq]
    constructor
    · intro h
      have h1 := congrArg Prod.fst h
      have h2 := congrArg Prod.snd h
      exact Prod.ext h1 (sh_inj h2)
    · intro h; rw [h]; rfl
  unfold headsStep
  rw [e1, e2, e3, e4]
  split
  · rw [List.map_append]; rfl
  · rfl
theorem headsTo_sh (b : Int) : ∀ (ps : List (List (List Int) × List Str)) (hs : List Head), headsTo (hs.map (shH b)) (ps.map fun p => (shT b p.1, p.2)) = (headsTo hs ps).map (shH b)
  | [], hs => rfl
  | p :: ps, hs => by
    show headsTo (headsStep (hs.map (shH b)) (shT b p.1) p.2) _ = _
    rw [headsStep_sh, headsTo_sh b ps]; rfl
theorem headsOf_sh (b : Int) (row : List Int) (ts : List (List (List Int))) (ns : List (List Str)) : headsOf (sh b row) (ts.map (shT b)) ns = (headsOf row ts ns).map (shH b) := by
  unfold headsOf
  rw [← headsTo_sh, List.zip_map_left]; rfl

/-! the row of the law -/
theorem tsOf_sh (b : Int) (row : List Int) : tsOf (sh b row) = (tsOf row).map (shT b) := towers_sh b 5 row
theorem namesOf_sh {b : Int} {row : List Int} (h : ∀ t ∈ tsOf row, PartsOk row t) : namesOf (sh b row) = namesOf row := by
  unfold namesOf
  rw [tsOf_sh, List.map_map]
  exact List.map_congr_left fun t ht => partsOf_sh (h t ht)
theorem hsOf_sh {b : Int} {row : List Int} (h : ∀ t ∈ tsOf row, PartsOk row t) : hsOf (sh b row) = (hsOf row).map (shH b) := by
  unfold hsOf
  rw [namesOf_sh h, tsOf_sh]; exact headsOf_sh b row _ _
theorem callsOf_sh {b : Int} {row : List Int} (h : ∀ t ∈ tsOf row, PartsOk row t) : callsOf (sh b row) = callsOf row := by unfold callsOf; rw [namesOf_sh h]
theorem dueOf_sh {b : Int} {row : List Int} (h : ∀ t ∈ tsOf row, PartsOk row t) (hd : Head) : dueOf (sh b row) (shH b hd) = dueOf row hd := by unfold dueOf; rw [namesOf_sh h]; rfl
theorem takenOf_sh {b : Int} {row : List Int} (h : ∀ t ∈ tsOf row, PartsOk row t) (hd : Head) : takenOf (sh b row) (shH b hd) = (takenOf row hd).map (shT b) := by
  unfold takenOf
  rw [dueOf_sh h, tsOf_sh, List.zip_map_left, List.filter_map, List.map_map, List.map_map]
  refine List.map_congr_left fun p _ => ?_
  simp [shH, shT, List.map_drop]
theorem cells_sh (b : Int) (t : List (List Int)) : cells (shT b t) = sh b (cells t) := by
  unfold cells shT sh
  rw [List.flatMap_map, List.map_flatMap]
theorem sum_sh (b : Int) : ∀ l : List Int, (sh b l).sum = b * l.length + l.sum
  | [] => by simp [sh]
  | x :: l => by
    have := sum_sh b l
    show (b + x) + (sh b l).sum = b * ((l.length + 1 : Nat) : Int) + (x + l.sum)
    rw [this]; push_cast; rw [Int.mul_add, Int.mul_one]; omega

/-! dealing -/
theorem apart_sh (b : Int) (row : List Int) : apart (sh b row) = apart row := by
  unfold apart
  rw [sh_len]
  refine flatMap_congr' fun i hi => List.map_congr_left fun j hj => ?_
  rw [mem_ints] at hi hj
  rw [ix_sh (by omega) (by omega), ix_sh (by omega) (by omega)]; omega
theorem placesOf_sh (b : Int) (row : List Int) : placesOf (sh b row) = placesOf row := by unfold placesOf; rw [sh_len]
theorem farOf_sh (b : Int) (row : List Int) : farOf (sh b row) = farOf row := by unfold farOf; rw [apart_sh, placesOf_sh]
theorem nearOf_sh (b : Int) (row : List Int) : nearOf (sh b row) = nearOf row := by unfold nearOf; rw [apart_sh, placesOf_sh]
theorem txt1_sh (b : Int) (row : List Int) : txt1 (sh b row) = txt1 row := by unfold txt1; rw [farOf_sh]
theorem txt2_sh (b : Int) (row : List Int) : txt2 (sh b row) = txt2 row := by unfold txt2; rw [nearOf_sh]
theorem txt3_sh (b : Int) (row : List Int) : txt3 (sh b row) = txt3 row := by unfold txt3; rw [nearOf_sh]
theorem toldOf_sh (b : Int) (row : List Int) : toldOf (sh b row) = toldOf row := by unfold toldOf; rw [txt1_sh, txt3_sh]
theorem spanOf_sh (b : Int) {row : List Int} (h : 1 ≤ row.length) : spanOf (sh b row) = spanOf row := by
  unfold spanOf
  have e1 : (sh b row).getLastD 0 = b + row.getLastD 0 := by
    unfold sh
    rw [List.getLastD_eq_getLast?, List.getLastD_eq_getLast?, List.getLast?_map]
    cases q : row.getLast? with
    | none => rw [List.getLast?_eq_none_iff] at q; rw [q] at h; simp at h
    | some x => rfl
  have e2 : (sh b row).headD 0 = b + row.headD 0 := by cases row with | nil => simp at h | cons x r => rfl
  rw [e1, e2]; omega
theorem minL_ext {l l' : List Int} (hl : l ≠ []) (hl' : l' ≠ []) (h : ∀ x, x ∈ l ↔ x ∈ l') : minL l = minL l' :=
  Int.le_antisymm ((minL_spec l hl).2 _ ((h _).mpr (minL_spec l' hl').1)) ((minL_spec l' hl').2 _ ((h _).mp (minL_spec l hl).1))
theorem maxL_ext {l l' : List Int} (hl : l ≠ []) (hl' : l' ≠ []) (h : ∀ x, x ∈ l ↔ x ∈ l') : maxL l = maxL l' :=
  Int.le_antisymm ((maxL_spec l' hl').2 _ ((h _).mp (maxL_spec l hl).1)) ((maxL_spec l hl).2 _ ((h _).mpr (maxL_spec l' hl').1))
theorem counts_mem {heaps c : Int} (hh : 0 < heaps) (sums : List Int) (x : Int) (h : x ∈ countsOf heaps (sh c sums)) : x ∈ countsOf heaps sums := by
  obtain ⟨r, hr, rfl⟩ := List.mem_map.mp h
  rw [mem_ints] at hr
  refine List.mem_map.mpr ⟨(r - c).fmod heaps, (mem_ints _ _ _).mpr ?_, ?_⟩
  · have h1 := Int.fmod_nonneg_of_pos (r - c) hh
    have h2 := Int.fmod_lt_of_pos (r - c) hh
    omega
  · congr 1
    unfold restsOf sh
    rw [List.map_map, List.count, List.count, List.countP_map, List.countP_map]
    refine List.countP_congr fun s _ => ?_
    simp only [Function.comp, beq_iff_eq]
    rw [Int.fmod_eq_emod_of_nonneg _ (by omega), Int.fmod_eq_emod_of_nonneg _ (by omega), Int.fmod_eq_emod_of_nonneg _ (by omega)]
    have hr0 : r % heaps = r := Int.emod_eq_of_lt (by omega) (by omega)
    constructor
    · intro h
      rw [← Int.add_emod_emod, h, Int.add_emod_emod, show c + (r - c) = r from by omega, hr0]
    · intro h
      rw [show r - c = r + (-c) from by omega, ← h, Int.emod_add_emod, show c + s + -c = s from by omega]
theorem balanced_sh {heaps : Int} (hh : 0 < heaps) (c : Int) (sums : List Int) : balanced heaps (sh c sums) = balanced heaps sums := by
  have iff : ∀ x, x ∈ countsOf heaps (sh c sums) ↔ x ∈ countsOf heaps sums := fun x => ⟨counts_mem hh sums x, fun h => by
    have e : sh (-c) (sh c sums) = sums := by
      rw [sh_sh]; unfold sh
      have : (fun x : Int => -c + c + x) = id := by funext x; simp only [id]; omega
      rw [this, List.map_id]
    rw [← e] at h
    exact counts_mem hh _ x h⟩
  have ne : ∀ ss, countsOf heaps ss ≠ [] := fun ss e => by
    have := congrArg List.length e
    simp [countsOf, ints_length] at this; omega
  unfold balanced
  rw [minL_ext (ne _) (ne _) iff, maxL_ext (ne _) (ne _) iff]
theorem DealtOk.sh {row sums : List Int} (ok : DealtOk row sums) (b c : Int) : DealtOk (KL.sh b row) (KL.sh c sums) where
  rowLen := by rw [sh_len]; exact ok.rowLen
  farOk := by rw [farOf_sh]; exact ok.farOk
  nearOk := by rw [nearOf_sh]; exact ok.nearOk
  len := by rw [farOf_sh, nearOf_sh]; exact ok.len
  span := by rw [spanOf_sh b ok.rowLen.1]; exact ok.span
  w1 := by rw [txt1_sh]; exact ok.w1
  w2 := by rw [txt2_sh]; exact ok.w2
  w3 := by rw [txt3_sh]; exact ok.w3
  n13 := by rw [txt1_sh, txt3_sh]; exact ok.n13
  n21 := by rw [txt1_sh, txt2_sh]; exact ok.n21
  told := by rw [toldOf_sh]; exact ok.told
  sumLen := by rw [sh_len]; exact ok.sumLen
  many := by rw [toldOf_sh, sh_len]; exact ok.many
  bal := fun heaps hm => by
    have := (mem_ints _ _ _).mp hm
    rw [toldOf_sh, balanced_sh (by omega)]; exact ok.bal heaps hm
  less13 := by rw [txt1_sh, txt3_sh, sh_len]; exact ok.less13
  eq12 := by rw [txt1_sh, txt2_sh, sh_len]; exact ok.eq12
  wt := by rw [sh_len]; exact ok.wt
  wb := by rw [sh_len]; exact ok.wb
  wsp := by rw [sh_len]; exact ok.wsp
  ntb := by rw [sh_len]; exact ok.ntb
  nts := by rw [sh_len]; exact ok.nts
  witTB := by rw [sh_len]; exact ok.witTB
  lessTB := by rw [sh_len]; exact ok.lessTB
  lessTS := by rw [sh_len]; exact ok.lessTS
  less21 := by rw [txt1_sh, txt2_sh]; exact ok.less21
  eq23 := by rw [txt2_sh, txt3_sh]; exact ok.eq23
  uneven := by rw [toldOf_sh, apart_sh, placesOf_sh, nearOf_sh, spanOf_sh b ok.rowLen.1]; exact ok.uneven
  even := by rw [txt1_sh, txt2_sh, apart_sh, placesOf_sh, nearOf_sh, spanOf_sh b ok.rowLen.1]; exact ok.even
end
section
/-! the reader's answers -/
section
variable (m : Option Str) (dirs : List Str)
abbrev fr (a : Ask) : Int := fresh1 m dirs a.1 a.2
theorem lookup_app {k y : Str} {v : Int} : ∀ {l : List (Str × Int)}, l.lookup k = none → k ≠ y → (l ++ [(y, v)]).lookup k = none
  | [], _, h => by rw [List.nil_append, lookup_cons_ne h]; rfl
  | (z, u) :: l, h1, h => by
    rw [List.cons_append]
    by_cases e : k = z
    · subst e; rw [lookup_cons_eq] at h1; cases h1
    · rw [lookup_cons_ne e] at h1 ⊢; exact lookup_app h1 h
theorem namesT_new {k : List (Str × Int)} {a : Ask} (h : k.lookup a.2 = none) : namesT m dirs k a.1 a.2 = k ++ [(a.2, fr m dirs a)] := by
  unfold namesT tabIn; rw [h]; rfl
theorem first_fresh : ∀ (xs : List Ask) (k : List (Str × Int)), (xs.map (·.2)).Nodup → (∀ a ∈ xs, k.lookup a.2 = none) →
    outsOf (fun k a => D.int (namesV m dirs k a.1 a.2)) (fun k a => namesT m dirs k a.1 a.2) k xs = xs.map (fun a => D.int (fr m dirs a)) ∧ xs.foldl (fun k a => namesT m dirs k a.1 a.2) k = k ++ xs.map fun a => (a.2, fr m dirs a)
  | [], k, _, _ => ⟨rfl, by simp⟩
  | a :: xs, k, nd, h => by
    rw [List.map_cons, List.nodup_cons] at nd
    have h0 := h a (.head _)
    have ih := first_fresh xs (k ++ [(a.2, fr m dirs a)]) nd.2 fun b hb => lookup_app (h b (.tail _ hb)) fun e => nd.1 (e ▸ List.mem_map.mpr ⟨b, hb, rfl⟩)
    rw [← namesT_new m dirs h0] at ih
    refine ⟨?_, ?_⟩
    · show D.int (namesV m dirs k a.1 a.2) :: _ = _
      rw [ih.1, List.map_cons]
      congr 2
      unfold namesV; rw [h0]; rfl
    · rw [List.foldl_cons, ih.2, namesT_new m dirs h0, List.map_cons, List.append_assoc]; rfl
theorem lookup_some_app {k : Str} {v : Int} {l l' : List (Str × Int)} (h : l.lookup k = none) (h' : l'.lookup k = some v) : (l ++ l').lookup k = some v := by
  induction l with
  | nil => exact h'
  | cons p l ih =>
    obtain ⟨z, u⟩ := p
    rw [List.cons_append]
    by_cases e : k = z
    · subst e; rw [lookup_cons_eq] at h; cases h
    · rw [lookup_cons_ne e] at h ⊢; exact ih h
theorem lookup_map {F : Ask → Int} : ∀ {xs : List Ask}, (xs.map (·.2)).Nodup → ∀ a ∈ xs, (xs.map fun a => (a.2, F a)).lookup a.2 = some (F a)
  | [], _, a, h => by cases h
  | x :: xs, nd, a, h => by
    rw [List.map_cons, List.nodup_cons] at nd
    rcases List.mem_cons.mp h with rfl | h
    · rw [List.map_cons, lookup_cons_eq]
    · rw [List.map_cons, lookup_cons_ne fun e => nd.1 (by rw [← e]; exact List.mem_map.mpr ⟨a, h, rfl⟩)]
      exact lookup_map nd.2 a h
theorem again_known {F : Ask → Int} : ∀ (xs : List Ask) (k : List (Str × Int)), (∀ a ∈ xs, k.lookup a.2 = some (F a)) →
    outsOf (fun k a => D.int (namesV m dirs k none a.2)) (fun k a => namesT m dirs k none a.2) k xs = xs.map fun a => D.int (F a)
  | [], k, _ => rfl
  | a :: xs, k, h => by
    have h0 := h a (.head _)
    have et : namesT m dirs k none a.2 = k := by unfold namesT tabIn; rw [h0]; rfl
    show D.int (namesV m dirs k none a.2) :: outsOf _ _ (namesT m dirs k none a.2) xs = _
    rw [et, again_known xs k fun b hb => h b (.tail _ hb), List.map_cons]
    congr 2
    unfold namesV; rw [h0]; rfl
theorem answers_fresh {xs : List Ask} (nd : (xs.map (·.2)).Nodup) (h : ∀ a ∈ xs, kvs0.lookup a.2 = none) {due : List Int} (hd : xs.map (fr m dirs) = due) : firstD m dirs xs = due.map .int ∧ againD m dirs xs = due.map .int := by
  have f := first_fresh m dirs xs kvs0 nd h
  have e : xs.map (fun a => D.int (fr m dirs a)) = due.map .int := by rw [← hd, List.map_map]; rfl
  refine ⟨f.1.trans e, ?_⟩
  unfold againD tab1
  rw [f.2, again_known m dirs (F := fr m dirs) xs _ fun a ha => lookup_some_app (h a ha) (lookup_map nd a ha)]
  exact e
end

/-! the checks -/
def wsB (st : Sc) : Bool := decide (st.count.length ≤ 10000) && (st.count.all (fun c => decide (0 ≤ c ∧ c ≤ 1000000)) && (decide (0 ≤ st.b ∧ st.b ≤ 1000000) && (decide (0 ≤ st.n ∧ st.n ≤ 1000000) && decide (0 ≤ st.nt ∧ st.nt ≤ 1000000))))
theorem wsOk_of {st : Sc} (h : wsB st = true) : WsOk st := by
  simp only [wsB, Bool.and_eq_true, decide_eq_true_eq, List.all_eq_true] at h
  obtain ⟨a, b, c, d, e⟩ := h
  refine ⟨a, fun i h0 h1 => ?_, c, d, e⟩
  have hlt : i.toNat < st.count.length := by omega
  have : ix st.count i = st.count[i.toNat] := by simp [ix, List.getD, hlt]
  rw [this]; exact b _ (List.getElem_mem _)
def rootB (p : Str) : Bool := decide (p.length ≤ 100000) && (decide (sliceT p none (some 1) = "/") && (!(sliceT p (some 1) (some 2) == ("/" : Str)) && (decide ((sliceT p (some 1) (some 2)).length ≤ 1000000) && decide ((sliceT p (some 1) none).length ≤ 100000))))
theorem rootOk_of {p : Str} (h : rootB p = true) : RootOk p := by
  simp only [rootB, Bool.and_eq_true, decide_eq_true_eq, Bool.not_eq_true'] at h
  obtain ⟨a, b, c, d, e⟩ := h
  exact ⟨a, b, c, d, e⟩
def normB (p : Str) : Bool := rootB p && (splitOk (sliceT p (some 1) none) "/" && (decide ((npComps p).length ≤ 1000) && ((npComps p).all (fun c => decide (c.length ≤ 1000)) && (JoinOk "/" (npTo (npComps p)) && (decide ((npText p).length ≤ 90000) && (decide (1 ≤ (Txt.join "/" (npTo (npComps p))).length) && (decide ((Txt.join "/" (npTo (npComps p))).length ≤ 90000) && decide ((normP p).length ≤ 100000))))))))
theorem normOk_of {p : Str} (h : normB p = true) : NormOk p := by
  simp only [normB, Bool.and_eq_true, decide_eq_true_eq, List.all_eq_true] at h
  obtain ⟨a, b, c, d, e, f, g, i, j⟩ := h
  exact ⟨rootOk_of a, b, ⟨c, d⟩, e, ⟨f, g, i⟩, j⟩
def rangeB (l : List Int) : Bool := decide (l.length ≤ 1000) && l.all fun n => decide (0 ≤ n ∧ n ≤ 10000)
def tabsB (n : Int) : Bool := wsB (scanS (tabsT n)) && (wsB (scanS (behT n)) && (wsB (scanS (spcT n)) && (decide (nOf (scanS (tabsT n)) (scanS (behT n)) ≤ 10000) && (decide (nOf (scanS (tabsT n)) (scanS (spcT n)) ≤ 10000) && (decide (witP (scanS (tabsT n)) (scanS (behT n)) = [(2, 2 * n, 2 * n)]) &&
  (!lessP (scanS (tabsT n)) (scanS (behT n)) && !lessP (scanS (tabsT n)) (scanS (spcT n))))))))
def dealt1 (row : List Int) : Bool := decide (1 ≤ row.length ∧ row.length ≤ 30) && (rangeB (farOf row) && (rangeB (nearOf row) && (decide ((leadS (farOf row)).length ≤ 90000) && (decide ((leadS (nearOf row)).length ≤ 90000) && (decide (0 ≤ spanOf row ∧ spanOf row ≤ 1000) && (wsB (scanS (txt1 row)) && (wsB (scanS (txt2 row)) && (wsB (scanS (txt3 row)) &&
  (decide (nOf (scanS (txt1 row)) (scanS (txt3 row)) ≤ 1000) && (decide (nOf (scanS (txt2 row)) (scanS (txt1 row)) ≤ 1000) && ((toldOf row).all (fun t => decide (2 ≤ t.1 ∧ t.1 ≤ 1000 ∧ 0 ≤ expOf t ∧ expOf t ≤ 20)) && (!lessP (scanS (txt2 row)) (scanS (txt1 row)) && (!equalP (scanS (txt2 row)) (scanS (txt3 row)) &&
  (decide (toldOf row = unevenTo (apart row) (placesOf row) (nearOf row) (zints 1 (spanOf row + 2 - 1).toNat)) && decide (witP (scanS (txt2 row)) (scanS (txt1 row)) = evenTo (apart row) (placesOf row) (nearOf row) (zints 1 (spanOf row + 2 - 1).toNat))))))))))))))))
def dealt2 (row sums : List Int) : Bool := decide (sums.length ≤ 1000) && (decide (manyTo (toldOf row) = sums.length) && ((zints 2 4).all (fun heaps => balanced heaps sums == (lackingOf heaps ((toldOf row).map fun t => t.1)).isEmpty) && ((lessP (scanS (txt1 row)) (scanS (txt3 row)) == ((sums.length : Int) == 1)) && ((equalP (scanS (txt1 row)) (scanS (txt2 row)) == ((sums.length : Int) == 1)) && tabsB sums.length))))
theorem range_of {l : List Int} (h : rangeB l = true) : l.length ≤ 1000 ∧ ∀ n ∈ l, 0 ≤ n ∧ n ≤ 10000 := by
  simp only [rangeB, Bool.and_eq_true, decide_eq_true_eq, List.all_eq_true] at h; exact h
theorem dealtOk_of {row sums : List Int} (h1 : dealt1 row = true) (h2 : dealt2 row sums = true) : DealtOk row sums := by
  simp only [dealt1, Bool.and_eq_true, decide_eq_true_eq, List.all_eq_true, Bool.not_eq_true'] at h1
  simp only [dealt2, tabsB, Bool.and_eq_true, decide_eq_true_eq, List.all_eq_true, Bool.not_eq_true', beq_iff_eq] at h2
  obtain ⟨a1, a2, a3, a4, a5, a6, a7, a8, a9, a10, a11, a12, a13, a14, a15, a16⟩ := h1
  obtain ⟨b1, b2, b3, b4, b5, b6, b7, b8, b9, b10, b11, b12, b13⟩ := h2
  exact {
    rowLen := a1
    farOk := range_of a2
    nearOk := range_of a3
    len := ⟨a4, a5⟩
    span := a6
    w1 := wsOk_of a7
    w2 := wsOk_of a8
    w3 := wsOk_of a9
    n13 := a10
    n21 := a11
    told := a12
    sumLen := b1
    many := b2
    bal := b3
    less13 := b4
    eq12 := b5
    wt := wsOk_of b6
    wb := wsOk_of b7
    wsp := wsOk_of b8
    ntb := b9
    nts := b10
    witTB := b11
    lessTB := b12
    lessTS := b13
    less21 := a13
    eq23 := a14
    uneven := a15
    even := a16 }
def towB : Nat → List Int → Bool
  | 0, row => decide (row.length < 2)
  | n + 1, row => decide (row.length ≤ 1000) && (decide (row.length < 2) || ((zints 0 ((row.length : Int) - 1).toNat).all (fun k => decide (-1000 ≤ ix row (k + 1) - ix row k ∧ ix row (k + 1) - ix row k ≤ 1000)) && ((List.range (row.length + 1)).all (fun i => decide ((belowTo row ((zints 0 ((row.length : Int) - 1).toNat).take i)).length ≤ 1000)) && (decide ((towers (n + 1) row).length ≤ 1000) && ((below row).all (fun one => decide (one.length ≤ 1000) && towB n one) && (towers (n + 1) row).all fun t => decide (t.length ≤ 1000))))))
theorem towOk_of : ∀ {n : Nat} {row : List Int}, towB n row = true → TowOk n row
  | 0, row, h => by show row.length < 2; simpa [towB] using h
  | n + 1, row, h => by
    rw [towB, Bool.and_eq_true, decide_eq_true_eq, Bool.or_eq_true, decide_eq_true_eq] at h
    obtain ⟨h1, h2⟩ := h
    refine ⟨h1, fun hl => ?_⟩
    rcases h2 with h2 | h2
    · omega
    · simp only [Bool.and_eq_true, decide_eq_true_eq, List.all_eq_true] at h2
      obtain ⟨a, b, c, d, e⟩ := h2
      refine ⟨fun k k0 k1 => a k ((mem_ints _ _ _).mpr (by omega)), fun pre post hp => ?_, c, fun one ho => ⟨(d one ho).1, towOk_of (d one ho).2⟩, e⟩
      have hlen := congrArg List.length hp
      rw [ints_length, List.length_append] at hlen
      have := b pre.length (List.mem_range.mpr (by omega))
      rw [hp, List.take_left] at this; exact this
def partsB : List Int → List (List Int) → Bool
  | _, [] => true
  | above, one :: r => decide (one.length ≤ 5) && (decide (one.length ≤ above.length) && (decide (above.length ≤ 1000) && ((zints 0 one.length).all (fun k => decide (-1000 ≤ ix one k - ix above k ∧ ix one k - ix above k ≤ 1000)) && partsB one r)))
theorem partsOk_of : ∀ {above : List Int} {t : List (List Int)}, partsB above t = true → PartsOk above t
  | _, [], _ => trivial
  | above, one :: r, h => by
    simp only [partsB, Bool.and_eq_true, decide_eq_true_eq, List.all_eq_true] at h
    obtain ⟨a, b, c, d, e⟩ := h
    exact ⟨a, b, c, fun k k0 k1 => d k ((mem_ints _ _ _).mpr (by omega)), partsOk_of e⟩
def subsOf : List Int → List (List Int)
  | [] => [[]]
  | x :: xs => subsOf xs ++ (subsOf xs).map (x :: ·)
theorem filter_subs (p : Int → Bool) : ∀ xs : List Int, xs.filter p ∈ subsOf xs
  | [] => by simp [subsOf]
  | x :: xs => by
    unfold subsOf
    rw [List.filter_cons]
    split
    · exact List.mem_append_right _ (List.mem_map.mpr ⟨_, filter_subs p xs, rfl⟩)
    · exact List.mem_append_left _ (filter_subs p xs)
abbrev subs5 : List (List Int) := subsOf (zints 0 5)
theorem rowB_sh (b c : Int) (ks : List Int) : sh b (rowB c ks) = rowB (b + c) ks := by
  unfold sh rowB
  rw [List.map_cons, List.map_map]
  congr 1
  exact List.map_congr_left fun k _ => by simp only [Function.comp]; omega
def cellN (ts : List (List (List Int))) : Nat := (cells (ts.headD [])).length
def dealtB (ks : List Int) : Bool := dealt1 (rowB 0 ks) && (dealt2 (rowB 0 ks) (sumsOf (tsOf (rowB 0 ks))) && (tsOf (rowB 0 ks)).all fun t => (cells t).length == cellN (tsOf (rowB 0 ks)))
theorem dealt_all {ks : List Int} (h : dealtB ks = true) (b : Int) : DealtOk (rowB b ks) (sumsOf (tsOf (rowB b ks))) := by
  simp only [dealtB, Bool.and_eq_true, List.all_eq_true, beq_iff_eq] at h
  obtain ⟨h1, h2, h3⟩ := h
  have e1 : rowB b ks = sh b (rowB 0 ks) := by rw [rowB_sh, Int.add_zero]
  have e2 : sumsOf (tsOf (rowB b ks)) = sh (b * (cellN (tsOf (rowB 0 ks)) : Nat)) (sumsOf (tsOf (rowB 0 ks))) := by
    rw [e1, tsOf_sh]
    unfold sumsOf
    rw [List.map_map]
    conv => rhs; unfold sh
    rw [List.map_map]
    refine List.map_congr_left fun t ht => ?_
    simp only [Function.comp]
    rw [cells_sh, sum_sh, h3 t ht]
  rw [e2, e1]
  exact (dealtOk_of h1 h2).sh b _

/-! heads and rows -/
def c0 (x : Str) : Nat := x.cps.getD 0 0
def ksIn (r : List Int) : List Int := (r.drop 1).map fun x => x - r.headD 0 - 1
def askB (head : List Str) : Bool := JoinOk "." head && (JoinOk "/" head && (decide ((dotJ head).length ≤ 10000) && (decide ((slJ head).length ≤ 10000) && (normB (crook head) && decide ((normP (crook head)).length ≤ 100000)))))
def headB (row : List Int) (h : Head) : Bool := decide (1 ≤ h.1.length ∧ h.1.length ≤ 100) && (h.1.all PyData.strOk && (askB h.1 && (decide (c0 (askO h.1).2 = 111) && (decide ((askedOf h.1 (callsOf row)).map (fr (some (dotJ h.1)) []) = dueOf row h) && (decide ((askedOf h.1 (callsOf row)).map (fr none [normP (crook h.1)]) = dueOf row h) &&
  (decide (takenOf row h = tsOf h.2) && ((tsOf h.2).all (fun t => decide ((cells t).length ≤ 1000)) && (decide (h.2 = rowB (h.2.headD 0) (ksIn h.2)) && decide (ksIn h.2 ∈ subs5)))))))))
def nameB (p : List Str) : Bool := decide (p.length ≤ 100) && (p.all PyData.strOk && (JoinOk "." p && (JoinOk "/" p && (decide ((dotJ p).length ≤ 10000) && decide ((slJ p).length ≤ 10000)))))
def rowB1 (row : List Int) : Bool := towB 5 row && (decide ((tsOf row).length ≤ 100) && ((tsOf row).all (fun t => decide (t.length ≤ 100) && partsB row t) && ((namesOf row).all nameB && (decide ((callsOf row).map (·.2)).Nodup && (callsOf row).all fun a => decide (c0 a.2 = 114)))))
def lawB (ks : List Int) : Bool := rowB1 (rowB 0 ks) && (hsOf (rowB 0 ks)).all (headB (rowB 0 ks))
theorem asked_nodup {head : List Str} {calls : List Ask} (nd : (calls.map (·.2)).Nodup) (hc : ∀ a ∈ calls, c0 a.2 = 114) (ho : c0 (askO head).2 = 111) : ((askedOf head calls).map (·.2)).Nodup ∧ ∀ a ∈ askedOf head calls, kvs0.lookup a.2 = none := by
  have hf : c0 ("f" : Str) = 102 := by decide +kernel
  have hs : c0 ("<string>" : Str) = 60 := by decide +kernel
  refine ⟨?_, fun a ha => ?_⟩
  · unfold askedOf
    rw [List.map_append, List.nodup_append]
    refine ⟨nd, ?_, fun x hx y hy e => ?_⟩
    · simp only [List.map_cons, List.map_nil, List.nodup_cons, List.mem_singleton, List.not_mem_nil, not_false_eq_true, List.nodup_nil, and_true]
      intro e; rw [e, hf] at ho; cases ho
    · obtain ⟨a, ha, rfl⟩ := List.mem_map.mp hx
      have h1 := hc a ha
      simp only [List.map_cons, List.map_nil, List.mem_cons, List.not_mem_nil, or_false] at hy
      rcases hy with hy | hy
      · rw [e, hy, ho] at h1; cases h1
      · rw [e, hy, hf] at h1; cases h1
  · have hne : c0 a.2 ≠ 60 := by
      unfold askedOf at ha
      rcases List.mem_append.mp ha with ha | ha
      · rw [hc a ha]; decide
      · simp only [List.mem_cons, List.not_mem_nil, or_false] at ha
        rcases ha with rfl | rfl
        · rw [ho]; decide
        · rw [show c0 ((none, "f") : Ask).2 = 102 from hf]; decide
    unfold kvs0
    rw [lookup_cons_ne fun e => hne (by rw [e, hs])]; rfl
theorem law_all {ks : List Int} (h : lawB ks = true) (hd : ∀ ks ∈ subs5, dealtB ks = true) (b : Int) : LawOk (rowB b ks) := by
  have e1 : rowB b ks = sh b (rowB 0 ks) := by rw [rowB_sh, Int.add_zero]
  rw [e1]
  obtain ⟨row, hrow⟩ : ∃ r, r = rowB 0 ks := ⟨_, rfl⟩
  unfold lawB at h
  rw [← hrow] at h ⊢
  simp only [rowB1, nameB, Bool.and_eq_true, List.all_eq_true, decide_eq_true_eq] at h
  obtain ⟨⟨a1, a2, a3, a4, a5, a6⟩, a7⟩ := h
  have hp : ∀ t ∈ tsOf row, PartsOk row t := fun t ht => partsOk_of (a3 t ht).2
  have hc := callsOf_sh (b := b) hp
  refine ⟨(towOk_of a1).sh, by rw [tsOf_sh, List.length_map]; exact a2, fun t ht => ?_, fun p q => ?_, fun h hh => ?_⟩
  · rw [tsOf_sh] at ht
    obtain ⟨t0, h0, rfl⟩ := List.mem_map.mp ht
    exact ⟨by rw [List.length_map]; exact (a3 t0 h0).1, (hp t0 h0).sh⟩
  · rw [namesOf_sh hp] at q; exact a4 p q
  · rw [hsOf_sh hp] at hh
    obtain ⟨h0, hm, rfl⟩ := List.mem_map.mp hh
    have hb := a7 h0 hm
    simp only [headB, askB, Bool.and_eq_true, List.all_eq_true, decide_eq_true_eq] at hb
    obtain ⟨b1, b2, ⟨c1, c2, c3, c4, c5, c6⟩, b4, b5, b6, b7, b8, b9, b10⟩ := hb
    have hcalls : (callsOf row).length ≤ 100 := by unfold callsOf namesOf; rw [List.length_map, List.length_map]; exact a2
    obtain ⟨nd, nk⟩ := asked_nodup (head := h0.1) a5 a6 b4
    have ed : dueOf (sh b row) (shH b h0) = dueOf row h0 := dueOf_sh hp h0
    have et : takenOf (sh b row) (shH b h0) = (tsOf h0.2).map (shT b) := by rw [takenOf_sh hp, b7]
    obtain ⟨f0, g0⟩ := answers_fresh (some (dotJ h0.1)) [] nd nk b5
    obtain ⟨f1, g1⟩ := answers_fresh none [normP (crook h0.1)] nd nk b6
    refine ⟨b1, b2, ?_, ?_, ?_, ?_, ?_, fun t ht => ?_, ?_⟩
    · rw [hc]; exact ⟨hcalls, c1, c2, c3, c4, normOk_of c5, c6⟩
    · rw [hc, ed]; exact f0
    · rw [hc, ed]; exact g0
    · rw [hc, ed]; exact f1
    · rw [hc, ed]; exact g1
    · rw [et] at ht
      obtain ⟨t0, ht0, rfl⟩ := List.mem_map.mp ht
      rw [cells_sh, sh_len]; exact b8 t0 ht0
    · rw [et, ← tsOf_sh]
      show DealtOk (sh b h0.2) (sumsOf (tsOf (sh b h0.2)))
      rw [b9, rowB_sh]
      exact dealt_all (hd _ b10) _
end
section
theorem dk0 : dealtB [] = true := by decide +kernel
theorem lk0 : lawB [] = true := by decide +kernel
theorem dk1 : dealtB [4] = true := by decide +kernel
theorem lk1 : lawB [4] = true := by decide +kernel
theorem dk2 : dealtB [3] = true := by decide +kernel
theorem lk2 : lawB [3] = true := by decide +kernel
theorem dk3 : dealtB [3, 4] = true := by decide +kernel
theorem lk3 : lawB [3, 4] = true := by decide +kernel
theorem dk4 : dealtB [2] = true := by decide +kernel
theorem lk4 : lawB [2] = true := by decide +kernel
theorem dk5 : dealtB [2, 4] = true := by decide +kernel
theorem lk5 : lawB [2, 4] = true := by decide +kernel
theorem dk6 : dealtB [2, 3] = true := by decide +kernel
theorem lk6 : lawB [2, 3] = true := by decide +kernel
theorem dk7 : dealtB [2, 3, 4] = true := by decide +kernel
theorem lk7 : lawB [2, 3, 4] = true := by decide +kernel
theorem dk8 : dealtB [1] = true := by decide +kernel
theorem lk8 : lawB [1] = true := by decide +kernel
theorem dk9 : dealtB [1, 4] = true := by decide +kernel
theorem lk9 : lawB [1, 4] = true := by decide +kernel
theorem dk10 : dealtB [1, 3] = true := by decide +kernel
theorem lk10 : lawB [1, 3] = true := by decide +kernel
theorem dk11 : dealtB [1, 3, 4] = true := by decide +kernel
theorem lk11 : lawB [1, 3, 4] = true := by decide +kernel
theorem dk12 : dealtB [1, 2] = true := by decide +kernel
theorem lk12 : lawB [1, 2] = true := by decide +kernel
theorem dk13 : dealtB [1, 2, 4] = true := by decide +kernel
theorem lk13 : lawB [1, 2, 4] = true := by decide +kernel
theorem dk14 : dealtB [1, 2, 3] = true := by decide +kernel
theorem lk14 : lawB [1, 2, 3] = true := by decide +kernel
theorem dk15 : dealtB [1, 2, 3, 4] = true := by decide +kernel
theorem lk15 : lawB [1, 2, 3, 4] = true := by decide +kernel
theorem dk16 : dealtB [0] = true := by decide +kernel
theorem lk16 : lawB [0] = true := by decide +kernel
theorem dk17 : dealtB [0, 4] = true := by decide +kernel
theorem lk17 : lawB [0, 4] = true := by decide +kernel
theorem dk18 : dealtB [0, 3] = true := by decide +kernel
theorem lk18 : lawB [0, 3] = true := by decide +kernel
theorem dk19 : dealtB [0, 3, 4] = true := by decide +kernel
theorem lk19 : lawB [0, 3, 4] = true := by decide +kernel
theorem dk20 : dealtB [0, 2] = true := by decide +kernel
theorem lk20 : lawB [0, 2] = true := by decide +kernel
theorem dk21 : dealtB [0, 2, 4] = true := by decide +kernel
theorem lk21 : lawB [0, 2, 4] = true := by decide +kernel
theorem dk22 : dealtB [0, 2, 3] = true := by decide +kernel
theorem lk22 : lawB [0, 2, 3] = true := by decide +kernel
theorem dk23 : dealtB [0, 2, 3, 4] = true := by decide +kernel
theorem lk23 : lawB [0, 2, 3, 4] = true := by decide +kernel
theorem dk24 : dealtB [0, 1] = true := by decide +kernel
theorem lk24 : lawB [0, 1] = true := by decide +kernel
theorem dk25 : dealtB [0, 1, 4] = true := by decide +kernel
theorem lk25 : lawB [0, 1, 4] = true := by decide +kernel
theorem dk26 : dealtB [0, 1, 3] = true := by decide +kernel
theorem lk26 : lawB [0, 1, 3] = true := by decide +kernel
theorem dk27 : dealtB [0, 1, 3, 4] = true := by decide +kernel
theorem lk27 : lawB [0, 1, 3, 4] = true := by decide +kernel
theorem dk28 : dealtB [0, 1, 2] = true := by decide +kernel
theorem lk28 : lawB [0, 1, 2] = true := by decide +kernel
theorem dk29 : dealtB [0, 1, 2, 4] = true := by decide +kernel
theorem lk29 : lawB [0, 1, 2, 4] = true := by decide +kernel
theorem dk30 : dealtB [0, 1, 2, 3] = true := by decide +kernel
theorem lk30 : lawB [0, 1, 2, 3] = true := by decide +kernel
theorem dk31 : dealtB [0, 1, 2, 3, 4] = true := by decide +kernel
theorem lk31 : lawB [0, 1, 2, 3, 4] = true := by decide +kernel
theorem subs_eq : subs5 = [[], [4], [3], [3, 4], [2], [2, 4], [2, 3], [2, 3, 4], [1], [1, 4], [1, 3], [1, 3, 4], [1, 2], [1, 2, 4], [1, 2, 3], [1, 2, 3, 4], [0], [0, 4], [0, 3], [0, 3, 4], [0, 2], [0, 2, 4], [0, 2, 3], [0, 2, 3, 4], [0, 1], [0, 1, 4], [0, 1, 3], [0, 1, 3, 4], [0, 1, 2], [0, 1, 2, 4], [0, 1, 2, 3], [0, 1, 2, 3, 4]] := by decide +kernel
theorem dealt_subs : ∀ ks ∈ subs5, dealtB ks = true := by
  rw [subs_eq]
  simp only [List.forall_mem_cons]
  exact ⟨dk0, dk1, dk2, dk3, dk4, dk5, dk6, dk7, dk8, dk9, dk10, dk11, dk12, dk13, dk14, dk15, dk16, dk17, dk18, dk19, dk20, dk21, dk22, dk23, dk24, dk25, dk26, dk27, dk28, dk29, dk30, dk31, fun _ h => by cases h⟩
theorem law_subs : ∀ ks ∈ subs5, lawB ks = true := by
  rw [subs_eq]
  simp only [List.forall_mem_cons]
  exact ⟨lk0, lk1, lk2, lk3, lk4, lk5, lk6, lk7, lk8, lk9, lk10, lk11, lk12, lk13, lk14, lk15, lk16, lk17, lk18, lk19, lk20, lk21, lk22, lk23, lk24, lk25, lk26, lk27, lk28, lk29, lk30, lk31, fun _ h => by cases h⟩
end
end KL
theorem PySem.Challenge.cw_kl0297_01_holds : PySem.Challenge.rw_kl0297_01.Holds :=
  KL.top_of 18 (by decide) fun w script hz => KL.fn_law hz (KL.law_all (KL.law_subs _ (KL.filter_subs _ _)) KL.dealt_subs _)
