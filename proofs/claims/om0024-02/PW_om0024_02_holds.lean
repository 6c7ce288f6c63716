import PyProof.Rows.All
import Wide.All
import OpenK.AllK
import Wide.FinOn
import PySem.Challenge.RW_om0024_02
open PySem PySem.W PySem.W.X PyProof.Rows PySem.Calls PySem.Spec
set_option Elab.async false
namespace Mine
set_option maxRecDepth 100000
set_option maxHeartbeats 1000000

/-! A small logic over data: what a call sees of the heap is a view; values stand for data. -/

abbrev View := Addr → Option Obj
abbrev tupO (vs : List Value) (n : Nat) : Obj := { cls := .type "tuple", data := .seq vs.toArray n }
abbrev lstO (vs : List Value) (n : Nat) : Obj := { cls := .type "list", data := .seq vs.toArray n }

inductive Dat where
  | none
  | bool (b : Bool)
  | int (i : Int)
  | str (s : Str)
  | byt (b : Array UInt8)
  | tup (l : List Dat)
  | lst (l : List Dat)
  | dS (l : List (Str × Dat))
  | dI (l : List (Int × Dat))
  | rng (a b s : Int)
  | kref (a : Addr)
  | typ (T : String)
  | itr (l : List Dat) (i : Nat)
  | slc (l u : Option Int)

/-- the law's text and world -/
structure Cx where
  prog : Program
  w : World
  K : Frag
  p : Program
  loose : List Str
  mean : ExcName → Option Value
  mg : Str → Option Value
  mb : Str → Option Value

inductive Rd (c : Cx) (β : View) : Value → Dat → Prop
  | none : Rd c β .none .none
  | bool (b : Bool) : Rd c β (.bool b) (.bool b)
  | int (i : Int) (t : Tok) : Rd c β (.int i t) (.int i)
  | str (x : Str) (t : Tok) : Rd c β (.str x t) (.str x)
  | byt (x : Array UInt8) (t : Tok) : Rd c β (.bytes x t) (.byt x)
  | tup {a : Addr} {vs : List Value} {n : Nat} {ds : List Dat} : β a = some (tupO vs n) → vs.length = ds.length → (∀ (i : Nat) v d, vs[i]? = some v → ds[i]? = some d → Rd c β v d) → Rd c β (.ref a) (.tup ds)
  | lst {a : Addr} {vs : List Value} {n : Nat} {ds : List Dat} : β a = some (lstO vs n) → vs.length = ds.length → (∀ (i : Nat) v d, vs[i]? = some v → ds[i]? = some d → Rd c β v d) → Rd c β (.ref a) (.lst ds)
  | dS {a : Addr} {o : Obj} {kvs : List (Str × Value)} {l : List (Str × Dat)} : (a == sysModules) = false → β a = some o → o.IsDictOf (strKind c.prog c.w) kvs → kvs.map (·.1) = l.map (·.1) → (∀ (i : Nat) v d, kvs[i]? = some v → l[i]? = some d → Rd c β v.2 d.2) → Rd c β (.ref a) (.dS l)
  | dI {a : Addr} {o : Obj} {kvs : List (Int × Value)} {l : List (Int × Dat)} : β a = some o → o.IsDictOf (intKind c.prog c.w) kvs → kvs.map (·.1) = l.map (·.1) → (∀ (i : Nat) v d, kvs[i]? = some v → l[i]? = some d → Rd c β v.2 d.2) → Rd c β (.ref a) (.dI l)
  | rng {r : Addr} {a b e : Int} {t u v : Tok} : β r = some { cls := .type "range", data := .fields #[.int a t, .int b u, .int e v] } → Rd c β (.ref r) (.rng a b e)
  | kref (a : Addr) : Rd c β (.ref a) (.kref a)
  | slc {a : Addr} {vl vu : Value} {l u : Option Int} : β a = some { cls := .type "slice", data := .fields #[vl, vu, .none] } → IsPart vl l → IsPart vu u → Rd c β (.ref a) (.slc l u)
  | itr {a L : Addr} {o : Obj} {vs : List Value} {n j : Nat} {ds : List Dat} : β a = some o → o.cls = .type "list_iterator" → o.data = .fields #[.ref L, .int j 0] → β L = some (lstO vs n) → vs.length = ds.length → (∀ (i : Nat) v d, vs[i]? = some v → ds[i]? = some d → Rd c β v d) → Rd c β (.ref a) (.itr ds j)
  | typ (T : String) : Rd c β (.type T) (.typ T)

def Rds (c : Cx) (β : View) (vs : List Value) (ds : List Dat) : Prop := vs.length = ds.length ∧ ∀ (i : Nat) v d, vs[i]? = some v → ds[i]? = some d → Rd c β v d

def Ext (β β' : View) : Prop := ∀ a o, β a = some o → β' a = some o
def Sub (β : View) (h : Heap) : Prop := ∀ a o, β a = some o → h.get? a = some o
def Kp (h h' : Heap) : Prop := ∀ b o, h.get? b = some o → h'.get? b = some o
theorem Kp.refl (h : Heap) : Kp h h := fun _ _ e => e
theorem Kp.trans {a b c : Heap} (x : Kp a b) (y : Kp b c) : Kp a c := fun i o e => y i o (x i o e)

theorem Rd.mono {c : Cx} {β β' : View} (hx : Ext β β') {v : Value} {d : Dat} (r : Rd c β v d) : Rd c β' v d := by
  induction r with
  | none => exact .none
  | bool b => exact .bool b
  | int i t => exact .int i t
  | str x t => exact .str x t
  | byt x t => exact .byt x t
  | tup e l _ ih => exact .tup (hx _ _ e) l ih
  | lst e l _ ih => exact .lst (hx _ _ e) l ih
  | dS z e k l _ ih => exact .dS z (hx _ _ e) k l ih
  | dI e k l _ ih => exact .dI (hx _ _ e) k l ih
  | rng e => exact .rng (hx _ _ e)
  | kref a => exact .kref a
  | itr e k l m q _ ih => exact .itr (hx _ _ e) k l (hx _ _ m) q ih
  | typ T => exact .typ T
  | slc e x y => exact .slc (hx _ _ e) x y
theorem Rds.mono {c : Cx} {β β' : View} (hx : Ext β β') {vs : List Value} {ds : List Dat} (r : Rds c β vs ds) : Rds c β' vs ds := ⟨r.1, fun i v d h1 h2 => (r.2 i v d h1 h2).mono hx⟩
theorem Rds.nil {c : Cx} {β : View} : Rds c β [] [] := ⟨rfl, fun i v d h => by simp at h⟩
theorem Rds.cons {c : Cx} {β : View} {v : Value} {d : Dat} {vs : List Value} {ds : List Dat} (r : Rd c β v d) (rs : Rds c β vs ds) : Rds c β (v :: vs) (d :: ds) := by
  refine ⟨by simp [rs.1], fun i v' d' h1 h2 => ?_⟩
  cases i with
  | zero => simp at h1 h2; subst h1; subst h2; exact r
  | succ i => simp at h1 h2; exact rs.2 i v' d' h1 h2
theorem Rds.snoc {c : Cx} {β : View} {v : Value} {d : Dat} {vs : List Value} {ds : List Dat} (rs : Rds c β vs ds) (r : Rd c β v d) : Rds c β (vs ++ [v]) (ds ++ [d]) := by
  refine ⟨by simp [rs.1], fun i v' d' h1 h2 => ?_⟩
  rcases Nat.lt_trichotomy i vs.length with h | h | h
  · rw [List.getElem?_append_left h] at h1
    rw [List.getElem?_append_left (rs.1 ▸ h)] at h2
    exact rs.2 i v' d' h1 h2
  · subst h
    simp at h1; subst h1
    rw [rs.1] at h2; simp at h2; subst h2; exact r
  · exfalso
    have : (vs ++ [v])[i]? = none := List.getElem?_eq_none (by simp; omega)
    rw [this] at h1; cases h1
theorem Rds.append {c : Cx} {β : View} {vs vs' : List Value} {ds ds' : List Dat} (r : Rds c β vs ds) (r' : Rds c β vs' ds') : Rds c β (vs ++ vs') (ds ++ ds') := by
  refine ⟨by simp [r.1, r'.1], fun i v d h1 h2 => ?_⟩
  rcases Nat.lt_or_ge i vs.length with h | h
  · rw [List.getElem?_append_left h] at h1
    rw [List.getElem?_append_left (r.1 ▸ h)] at h2
    exact r.2 i v d h1 h2
  · rw [List.getElem?_append_right h] at h1
    rw [List.getElem?_append_right (r.1 ▸ h)] at h2
    rw [← r.1] at h2
    exact r'.2 _ v d h1 h2
theorem Rds.get {c : Cx} {β : View} {vs : List Value} {ds : List Dat} (r : Rds c β vs ds) {i : Nat} {d : Dat} (h : ds[i]? = some d) : ∃ v, vs[i]? = some v ∧ Rd c β v d := by
  obtain ⟨hl, _⟩ := List.getElem?_eq_some_iff.mp h
  have hv : i < vs.length := by rw [r.1]; exact hl
  exact ⟨vs[i], List.getElem?_eq_getElem hv, r.2 i _ _ (List.getElem?_eq_getElem hv) h⟩
theorem Rds.inv_cons {c : Cx} {β : View} {vs : List Value} {d : Dat} {ds : List Dat} (r : Rds c β vs (d :: ds)) : ∃ v vs', vs = v :: vs' ∧ Rd c β v d ∧ Rds c β vs' ds := by
  cases vs with
  | nil => have := r.1; simp at this
  | cons v vs' => exact ⟨v, vs', rfl, r.2 0 v d rfl rfl, by have := r.1; simpa using this, fun i v' d' h1 h2 => r.2 (i + 1) v' d' (by simpa using h1) (by simpa using h2)⟩
theorem Rds.inv_nil {c : Cx} {β : View} {vs : List Value} (r : Rds c β vs []) : vs = [] := List.eq_nil_of_length_eq_zero r.1

section
variable {c : Cx} {β : View} {v : Value}
theorem Rd.inv_none (r : Rd c β v .none) : v = .none := by cases r; rfl
theorem Rd.inv_bool {b : Bool} (r : Rd c β v (.bool b)) : v = .bool b := by cases r; rfl
theorem Rd.inv_kref {a : Addr} (r : Rd c β v (.kref a)) : v = .ref a := by cases r; rfl
theorem Rd.inv_typ {T : String} (r : Rd c β v (.typ T)) : v = .type T := by cases r; rfl
theorem Rd.inv_int {i : Int} (r : Rd c β v (.int i)) : ∃ t, v = .int i t := by cases r; exact ⟨_, rfl⟩
theorem Rd.inv_str {x : Str} (r : Rd c β v (.str x)) : ∃ t, v = .str x t := by cases r; exact ⟨_, rfl⟩
theorem Rd.inv_byt {x : Array UInt8} (r : Rd c β v (.byt x)) : ∃ t, v = .bytes x t := by cases r; exact ⟨_, rfl⟩
theorem Rd.inv_lst {ds : List Dat} (r : Rd c β v (.lst ds)) : ∃ a vs n, v = .ref a ∧ β a = some (lstO vs n) ∧ Rds c β vs ds := by cases r with | lst e l h => exact ⟨_, _, _, rfl, e, l, h⟩
theorem Rd.inv_tup {ds : List Dat} (r : Rd c β v (.tup ds)) : ∃ a vs n, v = .ref a ∧ β a = some (tupO vs n) ∧ Rds c β vs ds := by cases r with | tup e l h => exact ⟨_, _, _, rfl, e, l, h⟩
end

/-- from one moment to a later one: nothing goes, the view grows by new objects alone -/
structure Nx (β : View) (h : Heap) (β' : View) (h' : Heap) : Prop where
  kp : Kp h h'
  ext : Ext β β'
  sub : Sub β' h'
  new : ∀ a o, β' a = some o → β a = none → h.get? a = none

theorem Nx.refl {β : View} {h : Heap} (hs : Sub β h) : Nx β h β h := ⟨Kp.refl h, fun _ _ e => e, hs, fun a o e n => by rw [n] at e; cases e⟩
theorem Nx.trans {β β' β'' : View} {h h' h'' : Heap} (x : Nx β h β' h') (y : Nx β' h' β'' h'') : Nx β h β'' h'' := by
  refine ⟨x.kp.trans y.kp, fun a o e => y.ext a o (x.ext a o e), y.sub, fun a o e n => ?_⟩
  cases q : β' a with
  | some o' => exact x.new a o' q n
  | none =>
    have := y.new a o e q
    cases z : h.get? a with
    | none => rfl
    | some o' => rw [x.kp a o' z] at this; cases this
theorem Nx.keep {β : View} {h h' : Heap} (hs : Sub β h) (k : Kp h h') : Nx β h β h' := ⟨k, fun _ _ e => e, fun a o e => k a o (hs a o e), fun a o e n => by rw [n] at e; cases e⟩
/-- a new object joins the view -/
theorem Nx.put {β : View} {h h' : Heap} {a : Addr} {o : Obj} (hs : Sub β h) (k : Kp h h') (n : h.get? a = none) (e : h'.get? a = some o) : Nx β h (fun x => if x = a then some o else β x) h' := by
  refine ⟨k, fun x o' q => ?_, fun x o' q => ?_, fun x o' q z => ?_⟩
  · by_cases hx : x = a
    · subst hx; rw [hs _ _ q] at n; cases n
    · rw [if_neg hx]; exact q
  · by_cases hx : x = a
    · subst hx; rw [if_pos rfl] at q; cases q; exact e
    · rw [if_neg hx] at q; exact k _ _ (hs _ _ q)
  · by_cases hx : x = a
    · subst hx; exact n
    · rw [if_neg hx] at q; rw [z] at q; cases q

def Base (c : Cx) (h : Heap) : Prop := c.K.In h ∧ Top c.p c.loose c.mean c.mg c.mb h
theorem Base.kp {c : Cx} {h h' : Heap} (b : Base c h) (k : Kp h h') : Base c h' := ⟨b.1.keeps k, b.2.keeps k⟩

structure AOk (k : Nat) (A : Around) : Prop where
  hh : A.handled = none
  hd : A.depth + k < recursionLimit
  hu : A.units + 20 * k + 20 < cLine

def Look (env : Env) (h : Heap) (x : Str) (v : Value) : Prop :=
  (env.kindOf x = some .local ∧ ∃ m, h.Ns env.locals m ∧ m x = some v) ∨ ((env.kindOf x = some .cell ∨ env.kindOf x = some .free) ∧ ∃ a, env.cells.lookup x = some a ∧ h.IsCell a (some v))
theorem Look.kp {env : Env} {h h' : Heap} {x : Str} {v : Value} (l : Look env h x v) (k : Kp h h') : Look env h' x v := by
  rcases l with ⟨e, m, n, q⟩ | ⟨e, a, l, q⟩
  · exact .inl ⟨e, m, n.keeps k, q⟩
  · exact .inr ⟨e, a, l, q.keeps k⟩

abbrev DEnv := List (Str × Dat)
structure Vars (c : Cx) (env : Env) (ρ : DEnv) (β : View) (h : Heap) : Prop where
  fk : env.scope.kind = .function
  gl : env.globals = mainGlobals
  bl : env.builtins = builtinsNs
  at' : ∀ x d, ρ.lookup x = some d → ∃ v, Rd c β v d ∧ Look env h x v
theorem Vars.nx {c : Cx} {env : Env} {ρ : DEnv} {β β' : View} {h h' : Heap} (V : Vars c env ρ β h) (n : Nx β h β' h') : Vars c env ρ β' h' :=
  ⟨V.fk, V.gl, V.bl, fun x d e => let ⟨v, r, l⟩ := V.at' x d e; ⟨v, r.mono n.ext, l.kp n.kp⟩⟩

/-- the expression evaluates to the datum, whatever stands around -/
def EV (c : Cx) (k : Nat) (env : Env) (ρ : DEnv) (e : Expr) (d : Dat) : Prop :=
  ∀ (A : Around) (s : Shared) (β : View) (Q : Value → Shared → Prop), AOk k A → Base c s.heap → Sub β s.heap → Vars c env ρ β s.heap →
    (∀ v h' β' t, Nx β s.heap β' h' → Rd c β' v d → Q v { s with heap := h', toks := t }) → wpAny (model c.prog c.w) A (eval e env) Q (fun _ _ => False) s

/-- a call of the value on data -/
def FS (c : Cx) (k : Nat) (f : Value) (ds : List Dat) (d : Dat) : Prop :=
  ∀ (A : Around) (s : Shared) (β : View) (vs : List Value) (Q : Value → Shared → Prop), AOk k A → Base c s.heap → Sub β s.heap → Rds c β vs ds →
    (∀ v h' β' t, Nx β s.heap β' h' → Rd c β' v d → Q v { s with heap := h', toks := t }) → wpAny (model c.prog c.w) A (call f vs) Q (fun _ _ => False) s

section
variable {c : Cx} {k : Nat} {env : Env} {ρ : DEnv}

theorem ev_name {x : Str} {pos : Pos} {d : Dat} (h : ρ.lookup x = some d) (hd : (x == ("__debug__" : Str)) = false := by decide) (hn : (x == ("__classdict__" : Str)) = false := by decide) : EV c k env ρ (.Name x pos) d := by
  intro A s β Q _ _ hs V hQ
  obtain ⟨v, r, l⟩ := V.at' x d h
  refine wpAny_Name ?_ hd
  have fin : Q v s := hQ v s.heap β s.toks (Nx.refl hs) r
  rcases l with ⟨e, m, n, q⟩ | ⟨e | e, a, l, q⟩
  · exact wpAny_loadName_local V.fk e n q fin
  · exact wpAny_loadName_cell V.fk e l q fin
  · exact wpAny_loadName_free V.fk e l q fin hn

theorem ev_int {i : Int} {n : Nat} {pos : Pos} : EV c k env ρ (.Constant (.int i) n pos) (.int i) := fun _ s _ _ _ _ hs _ hQ => wpAny_Constant_int (hQ _ s.heap _ _ (Nx.refl hs) (.int _ _))
theorem ev_none {n : Nat} {pos : Pos} : EV c k env ρ (.Constant .none n pos) .none := fun _ s _ _ _ _ hs _ hQ => wpAny_Constant_none (hQ _ s.heap _ s.toks (Nx.refl hs) .none)
theorem ev_bool {b : Bool} {n : Nat} {pos : Pos} : EV c k env ρ (.Constant (.bool b) n pos) (.bool b) := fun _ s _ _ _ _ hs _ hQ => wpAny_Constant_bool (hQ _ s.heap _ s.toks (Nx.refl hs) (.bool b))
theorem ev_str {x : Str} {n : Nat} {pos : Pos} : EV c k env ρ (.Constant (.str x) n pos) (.str x) := fun _ s _ _ _ _ hs _ hQ => wpAny_Constant_str (hQ _ s.heap _ _ (Nx.refl hs) (.str _ _))

/-- a binary operation on two ints -/
theorem ev_bin {l r : Expr} {op : Operator} {pos : Pos} {a b z : Int} (hl : EV c k env ρ l (.int a)) (hr : EV c k env ρ r (.int b))
    (ho : ∀ (A : Around) (s : Shared) (t u : Tok) (Q : Value → Shared → Prop), AOk k A → Base c s.heap → (∀ u' t', Q (.int z u') { s with toks := t' }) → wpAny (model c.prog c.w) A (binaryOp op (.int a t) (.int b u)) Q (fun _ _ => False) s) : EV c k env ρ (.BinOp l op r pos) (.int z) := by
  intro A s β Q ha hb hs V hQ
  refine wpAny_BinOp (hl A s β _ ha hb hs V fun v h' β' t n r => ?_)
  obtain ⟨t1, rfl⟩ := r.inv_int
  refine hr A _ β' _ ha (hb.kp n.kp) n.sub (V.nx n) fun v h'' β'' t' n' r' => ?_
  obtain ⟨t2, rfl⟩ := r'.inv_int
  exact ho A _ _ _ _ ha ((hb.kp n.kp).kp n'.kp) fun u' t' => hQ _ h'' β'' t' (n.trans n') (.int _ _)

theorem ev_add {l r : Expr} {pos : Pos} {a b : Int} (hl : EV c k env ρ l (.int a)) (hr : EV c k env ρ r (.int b)) : EV c k env ρ (.BinOp l .Add r pos) (.int (a + b)) := ev_bin hl hr fun _ _ _ _ _ _ _ hQ => add_int (hQ _ _)
theorem ev_sub {l r : Expr} {pos : Pos} {a b : Int} (hl : EV c k env ρ l (.int a)) (hr : EV c k env ρ r (.int b)) : EV c k env ρ (.BinOp l .Sub r pos) (.int (a - b)) := ev_bin hl hr fun _ _ _ _ _ _ _ hQ => sub_int' (hQ _ _)
theorem ev_and {l r : Expr} {pos : Pos} {a b : Int} (hl : EV c k env ρ l (.int a)) (hr : EV c k env ρ r (.int b)) : EV c k env ρ (.BinOp l .BitAnd r pos) (.int (Builtin.bitAnd a b)) := ev_bin hl hr fun _ _ _ _ _ _ _ hQ => and_int (hQ _ _)
theorem ev_or {l r : Expr} {pos : Pos} {a b : Int} (hl : EV c k env ρ l (.int a)) (hr : EV c k env ρ r (.int b)) : EV c k env ρ (.BinOp l .BitOr r pos) (.int (Builtin.bitOr a b)) := ev_bin hl hr fun _ _ _ _ _ _ _ hQ => or_int (hQ _ _)
theorem ev_xor {l r : Expr} {pos : Pos} {a b : Int} (hl : EV c k env ρ l (.int a)) (hr : EV c k env ρ r (.int b)) : EV c k env ρ (.BinOp l .BitXor r pos) (.int (Builtin.bitXor a b)) := ev_bin hl hr fun _ _ _ _ _ _ _ hQ => xor_int (hQ _ _)
theorem ev_shr {l r : Expr} {pos : Pos} {a b : Int} (hl : EV c k env ρ l (.int a)) (hr : EV c k env ρ r (.int b)) (h0 : 0 ≤ b) : EV c k env ρ (.BinOp l .RShift r pos) (.int (a.fdiv (2 ^ b.toNat))) := ev_bin hl hr fun _ _ _ _ _ _ _ hQ => rshift_int h0 (hQ _ _)
theorem ev_shl {l r : Expr} {pos : Pos} {a b : Int} (hl : EV c k env ρ l (.int a)) (hr : EV c k env ρ r (.int b)) (h0 : 0 ≤ b) (h1 : b ≤ 1000000) (h2 : a.natAbs < 2 ^ 64) : EV c k env ρ (.BinOp l .LShift r pos) (.int (a * 2 ^ b.toNat)) := ev_bin hl hr fun _ _ _ _ _ _ _ hQ => lshift_int_small h0 h1 h2 (hQ _ _)
theorem ev_mod {l r : Expr} {pos : Pos} {a b : Int} (hl : EV c k env ρ l (.int a)) (hr : EV c k env ρ r (.int b)) (h0 : b ≠ 0) : EV c k env ρ (.BinOp l .Mod r pos) (.int (a.fmod b)) := ev_bin hl hr fun _ _ _ _ _ _ _ hQ => mod_int' h0 (hQ _ _)
end
end Mine

open PySem PySem.W PySem.W.X PyProof.Rows PySem.Calls PySem.Spec
set_option Elab.async false
namespace Mine
set_option maxRecDepth 100000
set_option maxHeartbeats 1000000

def Imm : Dat → Prop
  | .none | .bool _ | .int _ | .str _ | .byt _ | .kref _ | .typ _ => True
  | _ => False
theorem Rd.imm {c : Cx} {β β' : View} {v : Value} {d : Dat} (r : Rd c β v d) (i : Imm d) : Rd c β' v d := by
  cases r with
  | none => exact .none
  | bool b => exact .bool b
  | int j t => exact .int j t
  | str x t => exact .str x t
  | byt x t => exact .byt x t
  | kref a => exact .kref a
  | typ T => exact .typ T
  | _ => exact i.elim

/-- an object that a name of the frame holds alone -/
def OwnAt (c : Cx) (β : View) (h : Heap) (a : Addr) : Dat → Prop
  | .lst ds => ∃ vs n, h.get? a = some (lstO vs n) ∧ Rds c β vs ds
  | .dS l => ∃ o kvs, (a == sysModules) = false ∧ h.get? a = some o ∧ o.IsDictOf (strKind c.prog c.w) kvs ∧ kvs.map (·.1) = l.map (·.1) ∧ (∀ (i : Nat) v d, kvs[i]? = some v → l[i]? = some d → Rd c β v.2 d.2)
  | .itr ds j => ∃ o L vs n, h.get? a = some o ∧ o.cls = .type "list_iterator" ∧ o.data = .fields #[.ref L, .int j 0] ∧ β L = some (lstO vs n) ∧ Rds c β vs ds
  | _ => False
theorem OwnAt.get {c : Cx} {β : View} {h : Heap} {a : Addr} {d : Dat} (o : OwnAt c β h a d) : ∃ ob, h.get? a = some ob := by
  cases d with
  | lst ds => obtain ⟨vs, n, e, _⟩ := o; exact ⟨_, e⟩
  | dS l => obtain ⟨ob, kvs, _, e, _⟩ := o; exact ⟨_, e⟩
  | itr ds j => obtain ⟨ob, L, vs, n, e, _⟩ := o; exact ⟨_, e⟩
  | _ => exact o.elim
theorem OwnAt.at {c : Cx} {β β' : View} {h h' : Heap} {a : Addr} {d : Dat} (o : OwnAt c β h a d) (x : Ext β β') (e : h'.get? a = h.get? a) : OwnAt c β' h' a d := by
  cases d with
  | lst ds => obtain ⟨vs, n, q, r⟩ := o; exact ⟨vs, n, e.trans q, r.mono x⟩
  | dS l => obtain ⟨ob, kvs, z, q, r1, r2, r3⟩ := o; exact ⟨ob, kvs, z, e.trans q, r1, r2, fun i v d h1 h2 => (r3 i v d h1 h2).mono x⟩
  | itr ds j => obtain ⟨ob, L, vs, n, q, r1, r2, r3, r4⟩ := o; exact ⟨ob, L, vs, n, e.trans q, r1, r2, x _ _ r3, r4.mono x⟩
  | _ => exact o.elim
theorem OwnAt.rd {c : Cx} {β β' : View} {h : Heap} {a : Addr} {d : Dat} (o : OwnAt c β h a d) (x : Ext β β') (e : β' a = h.get? a) : Rd c β' (.ref a) d := by
  cases d with
  | lst ds => obtain ⟨vs, n, q, r⟩ := o; exact .lst (e.trans q) r.1 fun i v d h1 h2 => (r.2 i v d h1 h2).mono x
  | dS l => obtain ⟨ob, kvs, z, q, r1, r2, r3⟩ := o; exact .dS z (e.trans q) r1 r2 fun i v d h1 h2 => (r3 i v d h1 h2).mono x
  | itr ds j => obtain ⟨ob, L, vs, n, q, r1, r2, r3, r4⟩ := o; exact .itr (e.trans q) r1 r2 (x _ _ r3) r4.1 fun i v d h1 h2 => (r4.2 i v d h1 h2).mono x
  | _ => exact o.elim

/-- what a frame keeps to itself -/
def cellsP (env : Env) : List (Str × Addr) := if env.func.isSome then env.cells else []
def priv (env : Env) (own : List Addr) : List Addr := env.locals :: ((cellsP env).map (·.2) ++ own)

abbrev Hid := List (Addr × (Obj → Prop))
structure StB (c : Cx) (env : Env) (β₀ : View) (h₀ : Heap) (ρ σ : DEnv) (η : Hid) (h : Heap) (β : View) (own : List Addr) : Prop where
  nx : Nx β₀ h₀ β h
  vars : Vars c env ρ β h
  pd : (priv env (own ++ η.map (·.1))).Nodup
  pb : ∀ a ∈ priv env (own ++ η.map (·.1)), β a = none
  p0 : ∀ a ∈ priv env (own ++ η.map (·.1)), h₀.get? a = none
  fr : ∃ m, h.Ns env.locals m
  cl : ∀ a ∈ (cellsP env).map (·.2), ∃ v, h.IsCell a v
  ol : σ.length = own.length
  ow : ∀ (i : Nat) x d a, σ[i]? = some (x, d) → own[i]? = some a → Look env h x (.ref a) ∧ OwnAt c β h a d
  hi : ∀ p ∈ η, ∃ o, h.get? p.1 = some o ∧ p.2 o
  fc : ∀ x a, env.cells.lookup x = some a → a ∈ (cellsP env).map (·.2) ∨ ∃ o, h₀.get? a = some o

/-- the state of a frame: names that hold data, names that hold objects alone -/
def St (c : Cx) (env : Env) (β₀ : View) (h₀ : Heap) (ρ σ : DEnv) (η : Hid) (s s' : Shared) : Prop := ∃ h t β own, s' = { s with heap := h, toks := t } ∧ StB c env β₀ h₀ ρ σ η h β own

theorem lookup_mem {α : Type} : ∀ {l : List (Str × α)} {x : Str} {a : α}, l.lookup x = some a → a ∈ l.map (·.2)
  | [], _, _, h => by cases h
  | (y, b) :: l, x, a, h => by
    rw [List.lookup_cons] at h
    split at h
    · cases h; exact List.mem_cons_self
    · exact List.mem_cons_of_mem _ (lookup_mem h)

section
variable {c : Cx} {env : Env} {β₀ : View} {h₀ : Heap} {ρ σ : DEnv} {η : Hid} {h : Heap} {β : View} {own : List Addr}

theorem StB.mem_get (S : StB c env β₀ h₀ ρ σ η h β own) {a : Addr} (ha : a ∈ priv env (own ++ η.map (·.1))) : ∃ o, h.get? a = some o := by
  rcases List.mem_cons.mp ha with rfl | ha
  · obtain ⟨m, o, _, _, e, _⟩ := S.fr; exact ⟨o, e⟩
  · rcases List.mem_append.mp ha with ha | ha
    · obtain ⟨v, o, e, _⟩ := S.cl a ha; exact ⟨o, e⟩
    · rcases List.mem_append.mp ha with ha | ha
      · obtain ⟨i, hi⟩ := List.getElem?_of_mem ha
        obtain ⟨li, _⟩ := List.getElem?_eq_some_iff.mp hi
        have lσ : i < σ.length := by rw [S.ol]; exact li
        exact (S.ow i _ _ a (List.getElem?_eq_getElem lσ) hi).2.get
      · obtain ⟨p, hp, rfl⟩ := List.mem_map.mp ha
        obtain ⟨o, e, _⟩ := S.hi p hp; exact ⟨o, e⟩

/-- time goes by, the view grows -/
theorem StB.later {h' : Heap} {β' : View} (S : StB c env β₀ h₀ ρ σ η h β own) (n : Nx β h β' h') : StB c env β₀ h₀ ρ σ η h' β' own := by
  refine ⟨S.nx.trans n, S.vars.nx n, S.pd, fun a ha => ?_, S.p0, ?_, fun a e => ?_, S.ol, fun i x d a h1 h2 => ?_, fun p hp => let ⟨o, e, q⟩ := S.hi p hp; ⟨o, n.kp _ _ e, q⟩, S.fc⟩
  · cases q : β' a with
    | none => rfl
    | some o =>
      have := n.new a o q (S.pb a ha)
      obtain ⟨o', e⟩ := S.mem_get ha
      rw [e] at this; cases this
  · obtain ⟨m, e⟩ := S.fr; exact ⟨m, e.keeps n.kp⟩
  · obtain ⟨v, e⟩ := S.cl a e; exact ⟨v, e.keeps n.kp⟩
  · obtain ⟨l, o⟩ := S.ow i x d a h1 h2
    obtain ⟨ob, e⟩ := o.get
    exact ⟨l.kp n.kp, o.at n.ext ((n.kp _ _ e).trans e.symm)⟩

/-- the view that shows the frame's own objects too -/
def plus (β : View) (h : Heap) (own : List Addr) : View := fun a => if a ∈ own then h.get? a else β a
theorem own_priv {env : Env} {own more : List Addr} {a : Addr} (h : a ∈ own) : a ∈ priv env (own ++ more) := List.mem_cons_of_mem _ (List.mem_append_right _ (List.mem_append_left _ h))
theorem hid_priv {env : Env} {own more : List Addr} {a : Addr} (h : a ∈ more) : a ∈ priv env (own ++ more) := List.mem_cons_of_mem _ (List.mem_append_right _ (List.mem_append_right _ h))

theorem StB.ext_plus (S : StB c env β₀ h₀ ρ σ η h β own) : Ext β (plus β h own) := fun a o e => by
  unfold plus
  by_cases ha : a ∈ own
  · rw [S.pb a (own_priv ha)] at e; cases e
  · rw [if_neg ha]; exact e
theorem StB.sub_plus (S : StB c env β₀ h₀ ρ σ η h β own) : Sub (plus β h own) h := fun a o e => by
  unfold plus at e
  by_cases ha : a ∈ own
  · rw [if_pos ha] at e; exact e
  · rw [if_neg ha] at e; exact S.nx.sub a o e

theorem lookup_idx {α : Type} : ∀ {l : List (Str × α)} {x : Str} {a : α}, l.lookup x = some a → ∃ i : Nat, l[i]? = some (x, a)
  | [], _, _, h => by cases h
  | (y, b) :: l, x, a, h => by
    rw [List.lookup_cons] at h
    split at h
    · rename_i e
      cases h; exact ⟨0, by rw [eq_of_beq e]; rfl⟩
    · obtain ⟨i, q⟩ := lookup_idx h; exact ⟨i + 1, by simpa using q⟩
theorem StB.vars_plus (S : StB c env β₀ h₀ ρ σ η h β own) : Vars c env (ρ ++ σ) (plus β h own) h := by
  refine ⟨S.vars.fk, S.vars.gl, S.vars.bl, fun x d e => ?_⟩
  rw [List.lookup_append] at e
  cases q : ρ.lookup x with
  | some d' =>
    rw [q] at e; cases e
    obtain ⟨v, r, l⟩ := S.vars.at' x d q
    exact ⟨v, r.mono S.ext_plus, l⟩
  | none =>
    rw [q] at e
    obtain ⟨i, hi⟩ := lookup_idx (by simpa using e)
    obtain ⟨li, _⟩ := List.getElem?_eq_some_iff.mp hi
    have lo : i < own.length := by rw [← S.ol]; exact li
    obtain ⟨l, o⟩ := S.ow i x d own[i] hi (List.getElem?_eq_getElem lo)
    have hm : own[i] ∈ own := List.getElem_mem lo
    exact ⟨_, o.rd S.ext_plus (by unfold plus; rw [if_pos hm]), l⟩

/-- names may be forgotten -/
theorem StB.forget {ρ' : DEnv} (S : StB c env β₀ h₀ ρ σ η h β own) (hr : ∀ x d, ρ'.lookup x = some d → ρ.lookup x = some d) : StB c env β₀ h₀ ρ' σ η h β own :=
  ⟨S.nx, ⟨S.vars.fk, S.vars.gl, S.vars.bl, fun x d e => S.vars.at' x d (hr x d e)⟩, S.pd, S.pb, S.p0, S.fr, S.cl, S.ol, S.ow, S.hi, S.fc⟩

theorem ns_unique {h : Heap} {L : Addr} {m m' : Str → Option Value} (a : h.Ns L m) (b : h.Ns L m') : m = m' := by
  obtain ⟨o, es, ep, e1, e2, e3, e4⟩ := a
  obtain ⟨o', es', ep', f1, f2, f3, f4⟩ := b
  rw [e1] at f1; cases f1
  rw [e2] at f2; cases f2
  funext x
  rw [← e4, ← f4]

/-- a change at one private address -/
theorem StB.priv_step {h' : Heap} {a : Addr} (S : StB c env β₀ h₀ ρ σ η h β own) (ha : a ∈ priv env (own ++ η.map (·.1))) (hs : ∀ b o, b ≠ a → h.get? b = some o → h'.get? b = some o) : Nx β₀ h₀ β h' :=
  ⟨fun b o e => hs b o (fun q => by rw [q, S.p0 a ha] at e; cases e) (S.nx.kp b o e), S.nx.ext, fun b o e => hs b o (fun q => by rw [q, S.pb a ha] at e; cases e) (S.nx.sub b o e), S.nx.new⟩

theorem priv_ne_own {env : Env} {own : List Addr} (hd : (priv env own).Nodup) {a b : Addr} (ha : a ∈ env.locals :: (cellsP env).map (·.2)) (hb : b ∈ own) : a ≠ b := by
  unfold priv at hd
  rw [← List.cons_append, List.nodup_append] at hd
  exact fun e => hd.2.2 a ha b hb e
theorem priv_ne_cell {env : Env} {own : List Addr} (hd : (priv env own).Nodup) {b : Addr} (hb : b ∈ (cellsP env).map (·.2)) : env.locals ≠ b := by
  unfold priv at hd
  rw [List.nodup_cons] at hd
  exact fun e => hd.1 (by rw [e]; exact List.mem_append_left _ hb)
theorem cells_inj {env : Env} {own : List Addr} (hd : (priv env own).Nodup) {x y : Str} {a b : Addr} (hx : (cellsP env).lookup x = some a) (hy : (cellsP env).lookup y = some b) (ne : x ≠ y) : a ≠ b := by
  intro e
  subst e
  have nd : ((cellsP env).map (·.2)).Nodup := by
    unfold priv at hd
    rw [List.nodup_cons, List.nodup_append] at hd
    exact hd.2.1
  obtain ⟨i, hi⟩ := lookup_idx hx
  obtain ⟨j, hj⟩ := lookup_idx hy
  have hij : i ≠ j := fun q => by subst q; rw [hi] at hj; cases hj; exact ne rfl
  obtain ⟨l1, e1⟩ := List.getElem?_eq_some_iff.mp hi
  obtain ⟨l2, e2⟩ := List.getElem?_eq_some_iff.mp hj
  have m1 : ((cellsP env).map (·.2))[i]'(by simpa using l1) = a := by simp [e1]
  have m2 : ((cellsP env).map (·.2))[j]'(by simpa using l2) = a := by simp [e2]
  rcases Nat.lt_or_gt_of_ne hij with lt | lt
  · exact (List.pairwise_iff_getElem.mp nd) i j _ _ lt (m1.trans m2.symm)
  · exact (List.pairwise_iff_getElem.mp nd) j i _ _ lt (m2.trans m1.symm)

theorem cellsP_of {env : Env} {x : Str} {a : Addr} (h : (cellsP env).lookup x = some a) : cellsP env = env.cells := by
  unfold cellsP at h ⊢
  split
  · rfl
  · rename_i q; rw [if_neg q] at h; cases h
theorem StB.cellLocals (S : StB c env β₀ h₀ ρ σ η h β own) {x : Str} {a : Addr} (l : env.cells.lookup x = some a) : a ≠ env.locals := by
  rcases S.fc x a l with q | ⟨o, q⟩
  · exact (priv_ne_cell S.pd q).symm
  · intro e; rw [e, S.p0 _ List.mem_cons_self] at q; cases q
theorem StB.cellOwn (S : StB c env β₀ h₀ ρ σ η h β own) {x : Str} {a b : Addr} (l : env.cells.lookup x = some a) (hb : b ∈ own ++ η.map (·.1)) : a ≠ b := by
  rcases S.fc x a l with q | ⟨o, q⟩
  · exact priv_ne_own S.pd (List.mem_cons_of_mem _ q) hb
  · intro e; rw [e, S.p0 _ (List.mem_cons_of_mem _ (List.mem_append_right _ hb))] at q; cases q

/-- the frame's names stand as they stood, but for one -/
theorem look_local {h h' : Heap} {x y : Str} {v v' : Value} {m : Str → Option Value} (hd : ∀ a, env.cells.lookup y = some a → a ≠ env.locals) (hm : h.Ns env.locals m) (hn : h'.Ns env.locals (fun z => if z = x then some v else m z)) (hs : Heap.SameBut env.locals h h') (ne : y ≠ x) (l : Look env h y v') : Look env h' y v' := by
  rcases l with ⟨e, m', n, q⟩ | ⟨e, a, l, q⟩
  · refine .inl ⟨e, _, hn, ?_⟩
    rw [if_neg ne, ← ns_unique n hm]; exact q
  · exact .inr ⟨e, a, l, q.sameBut hs (hd a l)⟩
theorem look_cell {h h' : Heap} {x y : Str} {v' : Value} {a : Addr} (hd : (priv env own).Nodup) (ha : (cellsP env).lookup x = some a) (hs : Heap.SameBut a h h') (ne : y ≠ x) (l : Look env h y v') : Look env h' y v' := by
  rcases l with ⟨e, m', n, q⟩ | ⟨e, b, l, q⟩
  · exact .inl ⟨e, m', n.sameBut hs (priv_ne_cell hd (lookup_mem ha)), q⟩
  · exact .inr ⟨e, b, l, q.sameBut hs (cells_inj hd (cellsP_of ha ▸ l) ha ne)⟩
end

section
variable {c : Cx} {A : Around} {env : Env} {β₀ : View} {h₀ : Heap} {ρ σ : DEnv} {η : Hid} {β : View} {own : List Addr} {s : Shared} {E : Value → Shared → Prop}

theorem lookup_none_ne {α : Type} {l : List (Str × α)} {x y : Str} {a : α} (h : l.lookup x = none) (h' : l.lookup y = some a) : y ≠ x := fun e => by rw [e, h] at h'; cases h'
theorem idx_ne {l : DEnv} {x y : Str} {d : Dat} {i : Nat} (h : l.lookup x = none) (h' : l[i]? = some (y, d)) : y ≠ x := by
  intro e
  subst e
  induction l generalizing i with
  | nil => simp at h'
  | cons p l ih =>
    rw [show p = (p.1, p.2) from rfl, List.lookup_cons] at h
    split at h
    · cases h
    · rename_i q
      cases i with
      | zero => simp at h'; rw [h'] at q; simp at q
      | succ i => exact ih (by simpa using h') h

/-- a name is bound -/
theorem store {x : Str} {v : Value} {d : Dat} {Q : Unit → Shared → Prop} (S : StB c env β₀ h₀ ρ σ η s.heap β own) (r : Rd c β v d) (hσ : σ.lookup x = none) (hx : env.kindOf x = some .local ∨ (env.kindOf x = some .cell ∧ ((cellsP env).lookup x).isSome = true))
    (hQ : ∀ h' t, StB c env β₀ h₀ ((x, d) :: ρ) σ η h' β own → Q () { s with heap := h', toks := t }) : wpAny (model c.prog c.w) A (storeName env x v) Q E s := by
  have hp : (env.scope.kind == .class || (env.scope.kind == .module && env.locals != env.globals)) = false := by rw [S.vars.fk]; rfl
  rcases hx with hx | ⟨hx, hc⟩
  · obtain ⟨m, hm⟩ := S.fr
    refine wpAny_storeName_local hx hm (fun h' hn hs => hQ h' _ ?_) hp
    have hL : env.locals ∈ priv env (own ++ η.map (·.1)) := List.mem_cons_self
    have hother : ∀ b o, b ≠ env.locals → s.heap.get? b = some o → h'.get? b = some o := fun b o ne e => (hs.2 b ne).trans e
    refine ⟨S.priv_step hL hother, ⟨S.vars.fk, S.vars.gl, S.vars.bl, fun y d' e => ?_⟩, S.pd, S.pb, S.p0, ⟨_, hn⟩, fun a ha => ?_, S.ol, fun i y d' a h1 h2 => ?_, fun p hp => let ⟨o, e, q⟩ := S.hi p hp; ⟨o, (hs.2 _ (priv_ne_own S.pd List.mem_cons_self (List.mem_append_right _ (List.mem_map_of_mem hp))).symm).trans e, q⟩, S.fc⟩
    · rw [List.lookup_cons] at e
      split at e
      · rename_i q
        cases e
        exact ⟨v, r, .inl ⟨(eq_of_beq q) ▸ hx, _, hn, by simp [eq_of_beq q]⟩⟩
      · rename_i q
        obtain ⟨v', r', l⟩ := S.vars.at' y d' e
        exact ⟨v', r', look_local (fun _ => S.cellLocals) hm hn hs (by simpa using q) l⟩
    · obtain ⟨v', q⟩ := S.cl a ha
      exact ⟨v', q.sameBut hs (priv_ne_cell S.pd ha).symm⟩
    · obtain ⟨l, o⟩ := S.ow i y d' a h1 h2
      refine ⟨look_local (fun _ => S.cellLocals) hm hn hs (idx_ne hσ h1) l, o.at (fun _ _ e => e) (hs.2 a ?_)⟩
      exact (priv_ne_own S.pd List.mem_cons_self (List.mem_append_left _ (List.mem_of_getElem? h2))).symm
  · obtain ⟨a, ha⟩ := Option.isSome_iff_exists.mp hc
    obtain ⟨v₀, hv₀⟩ := S.cl a (lookup_mem ha)
    refine wpAny_storeName_cell S.vars.fk hx (cellsP_of ha ▸ ha) hv₀ fun h' hn hs => hQ h' _ ?_
    have hL : a ∈ priv env (own ++ η.map (·.1)) := List.mem_cons_of_mem _ (List.mem_append_left _ (lookup_mem ha))
    have hother : ∀ b o, b ≠ a → s.heap.get? b = some o → h'.get? b = some o := fun b o ne e => (hs.2 b ne).trans e
    refine ⟨S.priv_step hL hother, ⟨S.vars.fk, S.vars.gl, S.vars.bl, fun y d' e => ?_⟩, S.pd, S.pb, S.p0, ?_, fun b hb => ?_, S.ol, fun i y d' b h1 h2 => ?_, fun p hp => let ⟨o, e, q⟩ := S.hi p hp; ⟨o, (hs.2 _ (priv_ne_own S.pd (List.mem_cons_of_mem _ (lookup_mem ha)) (List.mem_append_right _ (List.mem_map_of_mem hp))).symm).trans e, q⟩, S.fc⟩
    · rw [List.lookup_cons] at e
      split at e
      · rename_i q
        cases e
        exact ⟨v, r, .inr ⟨.inl ((eq_of_beq q) ▸ hx), a, (eq_of_beq q) ▸ (cellsP_of ha ▸ ha), hn⟩⟩
      · rename_i q
        obtain ⟨v', r', l⟩ := S.vars.at' y d' e
        exact ⟨v', r', look_cell S.pd ha hs (by simpa using q) l⟩
    · obtain ⟨m, hm⟩ := S.fr
      exact ⟨m, hm.sameBut hs (priv_ne_cell S.pd (lookup_mem ha))⟩
    · by_cases e : b = a
      · subst e; exact ⟨_, hn⟩
      · obtain ⟨v', q⟩ := S.cl b hb
        exact ⟨v', q.sameBut hs e⟩
    · obtain ⟨l, o⟩ := S.ow i y d' b h1 h2
      refine ⟨look_cell S.pd ha hs (idx_ne hσ h1) l, o.at (fun _ _ e => e) (hs.2 b ?_)⟩
      exact (priv_ne_own S.pd (List.mem_cons_of_mem _ (lookup_mem ha)) (List.mem_append_left _ (List.mem_of_getElem? h2))).symm
end
end Mine

open PySem PySem.W PySem.W.X PyProof.Rows PySem.Calls PySem.Spec
set_option Elab.async false
namespace Mine
set_option maxRecDepth 100000
set_option maxHeartbeats 1000000

/-- statements run from a frame's state -/
def SX (c : Cx) (k : Nat) (A : Around) (env : Env) (β₀ : View) (h₀ : Heap) (s₀ : Shared) (ρ σ : DEnv) (η : Hid) (ss : List Stmt) (K : Flow → Shared → Prop) : Prop :=
  AOk k A → Base c h₀ → ∀ s', St c env β₀ h₀ ρ σ η s₀ s' → wpAny (model c.prog c.w) A (execs ss env) K (fun _ _ => False) s'

def retv : Flow → Value
  | .ret v => v
  | _ => .none

theorem zip_lookup {c : Cx} {β : View} : ∀ {ps : List Str} {vs : List Value} {ds : List Dat} {x : Str} {d : Dat}, Rds c β vs ds → (ps.zip ds).lookup x = some d → ∃ v, (ps.zip vs).lookup x = some v ∧ Rd c β v d
  | [], _, _, _, _, _, h => by simp at h
  | p :: ps, vs, [], x, d, r, h => by simp at h
  | p :: ps, vs, d' :: ds, x, d, r, h => by
    obtain ⟨v, vs', rfl, r1, r2⟩ := r.inv_cons
    rw [List.zip_cons_cons, List.lookup_cons] at h
    rw [List.zip_cons_cons]
    simp only [List.lookup_cons]
    split at h
    · rename_i q; cases h; exact ⟨v, rfl, r1⟩
    · rename_i q; exact zip_lookup r2 h

theorem bindL_ne {kf : Str → Option NameKind} {x : Str} : ∀ {bs : List (Str × Value)} {m : Str → Option Value}, x ∉ bs.map (·.1) → bindL kf bs m x = m x
  | [], _, _ => rfl
  | (n, v) :: r, m, h => by
    unfold bindL
    rw [bindL_ne (fun q => h (List.mem_cons_of_mem _ q))]
    have ne : x ≠ n := fun e => h (by rw [e]; exact List.mem_cons_self)
    split
    · simp [ne]
    · rfl
theorem bindC_ne {kf : Str → Option NameKind} {x : Str} : ∀ {bs : List (Str × Value)} {m : Str → Option Value}, x ∉ bs.map (·.1) → bindC kf bs m x = m x
  | [], _, _ => rfl
  | (n, v) :: r, m, h => by
    unfold bindC
    rw [bindC_ne (fun q => h (List.mem_cons_of_mem _ q))]
    have ne : x ≠ n := fun e => h (by rw [e]; exact List.mem_cons_self)
    split
    · rfl
    · simp [ne]
theorem bindL_at {kf : Str → Option NameKind} {x : Str} {v : Value} (hk : kf x = some .local) : ∀ {bs : List (Str × Value)} {m : Str → Option Value}, (bs.map (·.1)).Nodup → bs.lookup x = some v → bindL kf bs m x = some v
  | [], _, _, h => by cases h
  | (n, u) :: r, m, nd, h => by
    rw [List.map_cons, List.nodup_cons] at nd
    unfold bindL
    rw [List.lookup_cons] at h
    split at h
    · rename_i q
      cases h
      have := eq_of_beq q; subst this
      rw [bindL_ne nd.1, if_pos hk]; simp
    · exact bindL_at hk nd.2 h
theorem bindC_at {kf : Str → Option NameKind} {x : Str} {v : Value} (hk : kf x = some .cell) : ∀ {bs : List (Str × Value)} {m : Str → Option Value}, (bs.map (·.1)).Nodup → bs.lookup x = some v → bindC kf bs m x = some v
  | [], _, _, h => by cases h
  | (n, u) :: r, m, nd, h => by
    rw [List.map_cons, List.nodup_cons] at nd
    unfold bindC
    rw [List.lookup_cons] at h
    split at h
    · rename_i q
      cases h
      have := eq_of_beq q; subst this
      rw [bindC_ne nd.1, if_neg (by rw [hk]; decide)]; simp
    · exact bindC_at hk nd.2 h

theorem zip_fst {α : Type} : ∀ {ps : List Str} {vs : List α}, ps.length = vs.length → (ps.zip vs).map (·.1) = ps
  | [], [], _ => rfl
  | p :: ps, v :: vs, h => by simp at h; simp [zip_fst h]
  | [], _ :: _, h => by simp at h
  | _ :: _, [], h => by simp at h

section
variable {c : Cx} {k : Nat}
/-- a def's contract from its body -/
theorem fs_intro {name qual : Str} {params : Arguments} {body : List Stmt} {scope : Scope} {dV kV doc pm cdv ct oc : Value} {an od : Option Addr} {osl : Array (Option Value)} {f : Addr} {ds : List Dat} {d : Dat} {ps : List Str}
    (ho : c.K.lookup f = some ⟨oc, od, .func (fnOf name qual params body scope dV kV doc pm an cdv ct), osl⟩) (hcd : codeIn c.K cdv qual = true)
    (hb : ∀ s vs, vs.length = ps.length → BindsTo s (fnOf name qual params body scope dV kV doc pm an cdv ct) ⟨vs, []⟩ (ps.zip vs)) (hl : ps.length = ds.length) (hps : ps.Nodup)
    (hkind : (ps.all fun y => scope.names.lookup y == some .local || scope.names.lookup y == some .cell) = true)
    (hnd : ((cellsFrom 0 scope.names []).map (·.1)).Nodup)
    (hco : scope.isCoroutine = false) (hgen : scope.isGenerator = false) (hk : scope.kind = .function)
    (hx : ∀ (L : Addr) (A : Around) (β₀ : View) (h₀ : Heap) (s₀ : Shared) (Q : Value → Shared → Prop), (∀ v h' β' t, Nx β₀ h₀ β' h' → Rd c β' v d → Q v { s₀ with heap := h', toks := t }) → SX c k A (envOfC qual scope L f cdv) β₀ h₀ s₀ (ps.zip ds) [] [] body (fun fl s' => Q (retv fl) s')) :
    FS c (k + 1) (.ref f) ds d := by
  intro A s β vs Q ha hbs hs hr hQ
  have hvl : vs.length = ps.length := by rw [hr.1, hl]
  have hkind' : ((ps.zip vs).all fun y => scope.names.lookup y.1 == some .local || scope.names.lookup y.1 == some .cell) = true := by
    rw [List.all_eq_true] at hkind ⊢
    intro y hy
    exact hkind y.1 (by have := List.mem_map_of_mem (f := (·.1)) hy; rwa [zip_fst hvl.symm] at this)
  refine wpAny_call ?_
  refine codeAny_call_function (fd := fnOf name qual params body scope dV kV doc pm an cdv ct) (by have := ha.hd; omega) (hbs.1 _ _ ho) rfl hco hgen rfl (codeRec_of hbs.1 hcd) (hb s vs hvl _ _ _ _ ?_)
  refine wpAny_newFunctionEnv_cells hk (kindsX hkind' _) fun env' he s' x => ?_
  subst he
  refine ⟨hbs.2.nolimit.keeps x.toInCall.keep, codeAny_func ?_⟩
  obtain ⟨h₁, tk, rfl, _⟩ := x.done
  have hk₁ : Kp s.heap h₁ := x.toInCall.keep
  have nds : ((cellsFrom (s.heap.objs.size + 1) scope.names []).map (·.1)).Nodup := cellsFrom_names scope.names 0 (s.heap.objs.size + 1) [] [] rfl ▸ hnd
  have ndz : ((ps.zip vs).map (·.1)).Nodup := by rw [zip_fst hvl.symm]; exact hps
  have S : StB c (envOfC qual scope s.heap.objs.size f cdv) β s.heap (ps.zip ds) [] [] h₁ β [] := by
    have big : ∀ a ∈ priv (envOfC qual scope s.heap.objs.size f cdv) ([] ++ ([] : Hid).map (·.1)), s.heap.objs.size ≤ a := fun a ha => by
      rcases List.mem_cons.mp ha with rfl | ha
      · exact Nat.le_refl _
      · rw [List.map_nil, List.append_nil, List.append_nil] at ha
        obtain ⟨⟨n, a'⟩, hm, rfl⟩ := List.mem_map.mp ha
        exact Nat.le_of_lt (x.above n _ hm)
    have none0 : ∀ a ∈ priv (envOfC qual scope s.heap.objs.size f cdv) ([] ++ ([] : Hid).map (·.1)), s.heap.get? a = none := fun a ha => Heap.get?_none_of_le (big a ha)
    refine ⟨Nx.keep hs hk₁, ⟨hk, rfl, rfl, fun y d' e => ?_⟩, ?_, fun a ha => ?_, none0, ⟨_, x.toInCall.ns⟩, fun a hm => ?_, rfl, fun i x d a h1 => by simp at h1, fun p hp => (List.not_mem_nil hp).elim, fun x a l => Or.inl (lookup_mem l)⟩
    · obtain ⟨v, e', r⟩ := zip_lookup hr e
      refine ⟨v, r, ?_⟩
      have hy : y ∈ ps := by
        obtain ⟨i, hi⟩ := lookup_idx e'
        have := List.mem_map_of_mem (f := (·.1)) (List.mem_of_getElem? hi)
        rwa [zip_fst hvl.symm] at this
      have hk2 := List.all_eq_true.mp hkind y hy
      rcases Bool.or_eq_true_iff.mp hk2 with q | q
      · have q' : scope.names.lookup y = some .local := by simpa using q
        exact .inl ⟨q', _, x.toInCall.ns, bindL_at q' ndz e'⟩
      · have q' : scope.names.lookup y = some .cell := by simpa using q
        obtain ⟨a, ha⟩ := Option.isSome_iff_exists.mp (cellsFrom_some (x := y) scope.names (s.heap.objs.size + 1) [] (.inl q'))
        refine .inr ⟨.inl q', a, ha, ?_⟩
        have := x.cell y a ha
        rwa [bindC_at q' ndz e'] at this
    · show (s.heap.objs.size :: ((cellsFrom (s.heap.objs.size + 1) scope.names []).map (·.2) ++ [])).Nodup
      rw [List.append_nil, List.nodup_cons]
      refine ⟨fun hm => ?_, ?_⟩
      · obtain ⟨⟨n, a'⟩, hm', e⟩ := List.mem_map.mp hm
        have := x.above n a' hm'
        dsimp only at e; rw [e] at this; exact Nat.lt_irrefl _ this
      · have := x.apart
        exact List.pairwise_map.mpr this
    · cases q : β a with
      | none => rfl
      | some o => have := hs a o q; rw [none0 a ha] at this; cases this
    · obtain ⟨⟨n, a'⟩, hm', e⟩ := List.mem_map.mp hm
      have := x.cell n a' (lookup_of_mem_nodup nds hm')
      dsimp only at e; subst e
      exact ⟨_, this⟩
  refine wpAny_mono (hx s.heap.objs.size (A.deeper (envOfC qual scope s.heap.objs.size f cdv)) β s.heap s Q hQ ⟨ha.hh, ?_, ?_⟩ hbs _ ⟨h₁, tk, β, [], rfl, S⟩) (fun fl s' hl => ?_) fun _ _ x => x.elim
  · have := ha.hd; show A.depth + 1 + k < _; omega
  · have := ha.hu; show A.units + 3 + 20 * k + 20 < _; omega
  · cases fl <;> exact hl
end
end Mine

open PySem PySem.W PySem.W.X PyProof.Rows PySem.Calls PySem.Spec
set_option Elab.async false
namespace Mine
set_option maxRecDepth 100000
set_option maxHeartbeats 1000000
set_option linter.unusedVariables false

/-- a test comes out so -/
def ET (c : Cx) (k : Nat) (env : Env) (ρ : DEnv) (e : Expr) (b : Bool) : Prop :=
  ∀ (A : Around) (s : Shared) (β : View) (Q : Bool → Shared → Prop), AOk k A → Base c s.heap → Sub β s.heap → Vars c env ρ β s.heap →
    (∀ h' β' t, Nx β s.heap β' h' → Q b { s with heap := h', toks := t }) → wpAny (model c.prog c.w) A (isTrue e env (eval e env)) Q (fun _ _ => False) s

/-- two data compared -/
def CO (c : Cx) (k : Nat) (op : CmpOp) (d₁ d₂ : Dat) (b : Bool) : Prop :=
  ∀ (A : Around) (s : Shared) (β : View) (v₁ v₂ : Value) (Q : Value → Shared → Prop), AOk k A → Base c s.heap → Sub β s.heap → Rd c β v₁ d₁ → Rd c β v₂ d₂ →
    (∀ h' t, Kp s.heap h' → Q (.bool b) { s with heap := h', toks := t }) → wpAny (model c.prog c.w) A (compareOp op v₁ v₂) Q (fun _ _ => False) s

/-- the truth of a datum -/
def TR (c : Cx) (k : Nat) (d : Dat) (b : Bool) : Prop :=
  ∀ (A : Around) (s : Shared) (β : View) (v : Value) (Q : Bool → Shared → Prop), AOk k A → Base c s.heap → Sub β s.heap → Rd c β v d →
    (∀ h' t, Kp s.heap h' → Q b { s with heap := h', toks := t }) → wpAny (model c.prog c.w) A (truthy v) Q (fun _ _ => False) s

/-- a list of expressions -/
inductive EL (c : Cx) (k : Nat) (env : Env) (ρ : DEnv) : List Expr → List Dat → Prop
  | nil : EL c k env ρ [] []
  | cons {e : Expr} {es : List Expr} {d : Dat} {ds : List Dat} : EV c k env ρ e d → starEach (e :: es) env = (false, eval e env) :: starEach es env → EL c k env ρ es ds → EL c k env ρ (e :: es) (d :: ds)

section
variable {c : Cx} {k : Nat} {env : Env} {ρ : DEnv}

theorem EL.run {es : List Expr} {ds : List Dat} (h : EL c k env ρ es ds) (pos : Pos) : ∀ (A : Around) (s : Shared) (β : View) (Q : List Value → Shared → Prop), AOk k A → Base c s.heap → Sub β s.heap → Vars c env ρ β s.heap →
    (∀ vs h' β' t, Nx β s.heap β' h' → Rds c β' vs ds → Q vs { s with heap := h', toks := t }) → wpAny (model c.prog c.w) A (spliced (backTo pos (starEach es env))) Q (fun _ _ => False) s := by
  induction h with
  | nil => exact fun A s β Q _ _ hs _ hQ => spliced_none (hQ [] s.heap β s.toks (Nx.refl hs) Rds.nil)
  | @cons e es d ds he hst _ ih =>
    intro A s β Q ha hb hs V hQ
    refine spliced_more (he A s β _ ha hb hs V fun v h' β' t n r => ?_) hst
    refine ih A _ β' _ ha (hb.kp n.kp) n.sub (V.nx n) fun vs h'' β'' t' n' r' => ?_
    exact hQ _ h'' β'' t' (n.trans n') (.cons (r.mono n'.ext) r')
theorem EL.star {es : List Expr} {ds : List Dat} (h : EL c k env ρ es ds) (pos : Pos) : (backTo pos (starEach es env)).any (·.1) = false := by
  induction h with
  | nil => rfl
  | cons _ hst _ ih => rw [hst]; exact ih

/-- the name stands for the value: one of the text's own, or a built-in one -/
inductive GN (c : Cx) (env : Env) (x : Str) : Value → Prop
  | own {a : Addr} {o : Obj} {fd : FuncData} : nsIn c.K mainGlobals x = some (some (.ref a)) → c.K.lookup a = some o → o.data = .func fd → env.kindOf x = some .globalImplicit → GN c env x (.ref a)
  | blt {id : String} : nsIn c.K mainGlobals x = some none → bootBuiltins x = some (.builtin id) → x ≠ "__name__" → env.kindOf x = some .globalImplicit → GN c env x (.builtin id)
  | typ {T : String} : nsIn c.K mainGlobals x = some none → bootBuiltins x = some (.type T) → x ≠ "__name__" → env.kindOf x = some .globalImplicit → GN c env x (.type T)
theorem GN.run {x : Str} {f : Value} {pos : Pos} (g : GN c env x f) {A : Around} {s : Shared} {Q : Value → Shared → Prop} {E : Value → Shared → Prop} {β : View} (hb : Base c s.heap) (V : Vars c env ρ β s.heap) (h : Q f s) (hd : (x == ("__debug__" : Str)) = false) :
    wpAny (model c.prog c.w) A (eval (.Name x pos) env) Q E s := by
  have hg : s.heap.Ns env.globals c.mg := by rw [V.gl]; exact hb.2.g
  have hbl : s.heap.Ns env.builtins c.mb := by rw [V.bl]; exact hb.2.b
  cases g with
  | own e _ _ kx => exact Name_function_global V.fk kx (loadGlobal_global hg (mg_of hb.1 hb.2.g e) h) hd
  | blt e b n kx => exact Name_function_global V.fk kx (loadGlobal_builtin hg (mg_none_of hb.1 hb.2.g e) hbl ((hb.2.builtins x n).trans b) h) hd
  | typ e b n kx => exact Name_function_global V.fk kx (loadGlobal_builtin hg (mg_none_of hb.1 hb.2.g e) hbl ((hb.2.builtins x n).trans b) h) hd

theorem ev_call {x : Str} {p pos : Pos} {e : Expr} {es : List Expr} {f : Value} {ds : List Dat} {d : Dat} (g : GN c env x f) (he : EL c k env ρ (e :: es) ds) (hf : FS c k f ds d) (hd : (x == ("__debug__" : Str)) = false := by decide) :
    EV c k env ρ (.Call (.Name x p) (e :: es) [] pos) d := by
  intro A s β Q ha hb hs V hQ
  refine wpAny_Call_Name_kw (g.run hb V ?_ hd)
  show wpAny _ _ (callWith pos f [] (backTo pos (starEach (e :: es) env)) []) _ _ _
  have st := he.star pos
  have run : ∀ (R : Value → Shared → Prop), (∀ vs h' β' t, Nx β s.heap β' h' → Rds c β' vs ds → wpAny (model c.prog c.w) A (call f vs) Q (fun _ _ => False) { s with heap := h', toks := t }) → wpAny (model c.prog c.w) A (spliced (backTo pos (starEach (e :: es) env))) (fun vs s' => wpAny (model c.prog c.w) A (call f vs) Q (fun _ _ => False) s') (fun _ _ => False) s :=
    fun _ h => he.run pos A s β _ ha hb hs V h
  have fin : ∀ vs h' β' t, Nx β s.heap β' h' → Rds c β' vs ds → wpAny (model c.prog c.w) A (call f vs) Q (fun _ _ => False) { s with heap := h', toks := t } := fun vs h' β' t n r =>
    hf A _ β' vs Q ha (hb.kp n.kp) n.sub r fun v h'' β'' t' n' r' => hQ v h'' β'' t' (n.trans n') r'
  have hst : starEach (e :: es) env = (false, eval e env) :: starEach es env := by cases he with | cons _ h _ => exact h
  cases g with
  | @own a o fd _ l hfd kx =>
    rw [hst] at st ⊢
    refine Calls.callWith_function (o := o) (fd := fd) (evalArgs_plain ?_)
    have := he.run pos A s β (fun vs s' => (s'.heap.get? a = some o ∧ o.data = .func fd) ∧ wpAny (model c.prog c.w) A (call (.ref a) vs) Q (fun _ _ => False) s') ha hb hs V fun vs h' β' t n r => ⟨⟨n.kp _ _ (hb.1 _ _ l), hfd⟩, fin vs h' β' t n r⟩
    rw [hst] at this
    exact this
  | blt =>
    rw [hst] at st ⊢
    refine Calls.callWith_builtin st (evalArgs_plain ?_)
    have := run (fun _ _ => True) fin
    rw [hst] at this
    exact this
  | typ =>
    rw [hst] at st ⊢
    refine PySem.callWith_type st (evalArgs_plain ?_)
    have := run (fun _ _ => True) fin
    rw [hst] at this
    exact this

/-- displays -/
theorem push_nx {β : View} {h : Heap} {o : Obj} (hs : Sub β h) (hf : o.isFreed = false) : Nx β h (fun x => if x = h.objs.size then some o else β x) (h.push o) :=
  Nx.put hs (fun _ _ e => Heap.get?_push_of_some _ e) (Heap.get?_none_of_le (Nat.le_refl _)) (Heap.get?_push_size _ hf)
theorem put_at {β : View} {a : Addr} {o : Obj} : (fun x => if x = a then some o else β x) a = some o := by simp
theorem ev_list {es : List Expr} {pos : Pos} {ds : List Dat} (he : EL c k env ρ es ds) (hl : ds.length ≤ 10000) : EV c k env ρ (.List es pos) (.lst ds) := by
  intro A s β Q ha hb hs V hQ
  refine wpAny_List_spliced (he.run pos A s β _ ha hb hs V fun vs h' β' t n r => ⟨?_, ?_⟩)
  · rw [r.1, sizeLine_eq]; omega
  · have n' := push_nx (o := lstO vs 0) n.sub rfl
    exact hQ _ _ _ t (n.trans n') (.lst put_at r.1 fun i v d h1 h2 => (r.2 i v d h1 h2).mono n'.ext)
theorem ev_tuple {es : List Expr} {x1} {pos : Pos} {ds : List Dat} (he : EL c k env ρ es ds) (hl : ds.length ≤ 10000) : EV c k env ρ (.Tuple es x1 pos) (.tup ds) := by
  intro A s β Q ha hb hs V hQ
  refine wpAny_Tuple_spliced (he.run pos A s β _ ha hb hs V fun vs h' β' t n r => ⟨?_, ?_⟩)
  · rw [r.1, sizeLine_eq]; omega
  · have n' := push_nx (o := tupO vs 0) n.sub rfl
    exact hQ _ _ _ t (n.trans n') (.tup put_at r.1 fun i v d h1 h2 => (r.2 i v d h1 h2).mono n'.ext)

/-- comparisons -/
theorem ev_cmp {l r : Expr} {op : CmpOp} {pos : Pos} {d₁ d₂ : Dat} {b : Bool} (hl : EV c k env ρ l d₁) (hr : EV c k env ρ r d₂) (ho : CO c k op d₁ d₂ b) (hm : behindInMarks op r = false := by with_unfolding_all rfl) : EV c k env ρ (.Compare l [op] [r] pos) (.bool b) := by
  intro A s β Q ha hb hs V hQ
  refine wpAny_Compare1 (hl A s β _ ha hb hs V fun v h' β' t n r => ?_) hm
  refine hr A _ β' _ ha (hb.kp n.kp) n.sub (V.nx n) fun v' h'' β'' t' n' r' => ?_
  exact ho A _ β'' v v' _ ha ((hb.kp n.kp).kp n'.kp) n'.sub (r.mono n'.ext) r' fun h3 t3 k3 => hQ _ h3 β'' t3 ((n.trans n').trans (Nx.keep n'.sub k3)) (.bool b)
theorem et_cmp {l r : Expr} {op : CmpOp} {pos : Pos} {d₁ d₂ : Dat} {b : Bool} (hl : EV c k env ρ l d₁) (hr : EV c k env ρ r d₂) (ho : CO c k op d₁ d₂ b) (hm : behindInMarks op r = false := by with_unfolding_all rfl) : ET c k env ρ (.Compare l [op] [r] pos) b := by
  intro A s β Q ha hb hs V hQ
  refine wpAny_isTrue_Compare1 (hl A s β _ ha hb hs V fun v h' β' t n r => ?_) hm
  refine hr A _ β' _ ha (hb.kp n.kp) n.sub (V.nx n) fun v' h'' β'' t' n' r' => ?_
  exact ho A _ β'' v v' _ ha ((hb.kp n.kp).kp n'.kp) n'.sub (r.mono n'.ext) r' fun h3 t3 k3 => wpAny_truthy_bool (hQ h3 β'' t3 ((n.trans n').trans (Nx.keep n'.sub k3)))
theorem et_plain {e : Expr} {d : Dat} {b : Bool} (he : EV c k env ρ e d) (ht : TR c k d b) (hp : isTrue e env (eval e env) = (do let v ← eval e env; standAt e.pos; holding [v] (truthy v)) := by rfl) : ET c k env ρ e b := by
  intro A s β Q ha hb hs V hQ
  refine isTrue_plain (he A s β _ ha hb hs V fun v h' β' t n r => ?_) hp
  exact ht A _ β' v _ ha (hb.kp n.kp) n.sub r fun h3 t3 k3 => hQ h3 β' t3 (n.trans (Nx.keep n.sub k3))
theorem et_not {e : Expr} {pos : Pos} {b : Bool} (he : ET c k env ρ e b) : ET c k env ρ (.UnaryOp .Not e pos) (!b) := by
  intro A s β Q ha hb hs V hQ
  exact isTrue_not (he A s β _ ha hb hs V fun h' β' t n => hQ h' β' t n)
theorem et_and_nil {pos : Pos} : ET c k env ρ (.BoolOp .And [] pos) true := fun A s β Q _ _ hs _ hQ => isTrue_and_nil (hQ s.heap β s.toks (Nx.refl hs))
theorem et_or_nil {pos : Pos} : ET c k env ρ (.BoolOp .Or [] pos) false := fun A s β Q _ _ hs _ hQ => isTrue_or_nil (hQ s.heap β s.toks (Nx.refl hs))
theorem et_and {e : Expr} {es : List Expr} {pos : Pos} {b b' : Bool} (he : ET c k env ρ e b) (hr : b = true → ET c k env ρ (.BoolOp .And es pos) b') : ET c k env ρ (.BoolOp .And (e :: es) pos) (b && b') := by
  intro A s β Q ha hb hs V hQ
  refine PyProof.Rows.isTrue_and (he A s β _ ha hb hs V fun h' β' t n => ?_)
  cases b with
  | false => exact hQ h' β' t n
  | true => exact hr rfl A _ β' _ ha (hb.kp n.kp) n.sub (V.nx n) fun h'' β'' t' n' => hQ h'' β'' t' (n.trans n')
theorem et_or {e : Expr} {es : List Expr} {pos : Pos} {b b' : Bool} (he : ET c k env ρ e b) (hr : b = false → ET c k env ρ (.BoolOp .Or es pos) b') : ET c k env ρ (.BoolOp .Or (e :: es) pos) (b || b') := by
  intro A s β Q ha hb hs V hQ
  refine PyProof.Rows.isTrue_or (he A s β _ ha hb hs V fun h' β' t n => ?_)
  cases b with
  | true => exact hQ h' β' t n
  | false => exact hr rfl A _ β' _ ha (hb.kp n.kp) n.sub (V.nx n) fun h'' β'' t' n' => hQ h'' β'' t' (n.trans n')
theorem ev_ifexp {t e₁ e₂ : Expr} {pos : Pos} {b : Bool} {d : Dat} (ht : ET c k env ρ t b) (h1 : b = true → EV c k env ρ e₁ d) (h2 : b = false → EV c k env ρ e₂ d) : EV c k env ρ (.IfExp t e₁ e₂ pos) d := by
  intro A s β Q ha hb hs V hQ
  refine wpAny_IfExp (ht A s β _ ha hb hs V fun h' β' t n => ?_)
  cases b with
  | true => exact h1 rfl A _ β' _ ha (hb.kp n.kp) n.sub (V.nx n) fun v h'' β'' t' n' r => hQ v h'' β'' t' (n.trans n') r
  | false => exact h2 rfl A _ β' _ ha (hb.kp n.kp) n.sub (V.nx n) fun v h'' β'' t' n' r => hQ v h'' β'' t' (n.trans n') r

theorem co_eq {a b : Int} : CO c k .Eq (.int a) (.int b) (a == b) := by
  intro A s β v₁ v₂ Q _ _ _ r1 r2 hQ
  obtain ⟨t1, rfl⟩ := r1.inv_int; obtain ⟨t2, rfl⟩ := r2.inv_int
  exact eq_int (hQ s.heap s.toks (Kp.refl _))
theorem co_ne {a b : Int} : CO c k .NotEq (.int a) (.int b) (a != b) := by
  intro A s β v₁ v₂ Q _ _ _ r1 r2 hQ
  obtain ⟨t1, rfl⟩ := r1.inv_int; obtain ⟨t2, rfl⟩ := r2.inv_int
  exact ne_int (hQ s.heap s.toks (Kp.refl _))
theorem co_lt {a b : Int} : CO c k .Lt (.int a) (.int b) (decide (a < b)) := by
  intro A s β v₁ v₂ Q _ _ _ r1 r2 hQ
  obtain ⟨t1, rfl⟩ := r1.inv_int; obtain ⟨t2, rfl⟩ := r2.inv_int
  exact lt_int (hQ s.heap s.toks (Kp.refl _))
theorem co_gt {a b : Int} : CO c k .Gt (.int a) (.int b) (decide (b < a)) := by
  intro A s β v₁ v₂ Q _ _ _ r1 r2 hQ
  obtain ⟨t1, rfl⟩ := r1.inv_int; obtain ⟨t2, rfl⟩ := r2.inv_int
  exact gt_int (hQ s.heap s.toks (Kp.refl _))
theorem co_ge {a b : Int} : CO c k .GtE (.int a) (.int b) (decide (b ≤ a)) := by
  intro A s β v₁ v₂ Q _ _ _ r1 r2 hQ
  obtain ⟨t1, rfl⟩ := r1.inv_int; obtain ⟨t2, rfl⟩ := r2.inv_int
  exact ge_int (hQ s.heap s.toks (Kp.refl _))
theorem co_eqs {a b : Str} : CO c k .Eq (.str a) (.str b) (a == b) := by
  intro A s β v₁ v₂ Q _ _ _ r1 r2 hQ
  obtain ⟨t1, rfl⟩ := r1.inv_str; obtain ⟨t2, rfl⟩ := r2.inv_str
  exact PyProof.Rows.eq_str (hQ s.heap s.toks (Kp.refl _))
theorem co_nes {a b : Str} : CO c k .NotEq (.str a) (.str b) (a != b) := by
  intro A s β v₁ v₂ Q _ _ _ r1 r2 hQ
  obtain ⟨t1, rfl⟩ := r1.inv_str; obtain ⟨t2, rfl⟩ := r2.inv_str
  exact PyProof.Rows.ne_str (hQ s.heap s.toks (Kp.refl _))
theorem co_neb {a b : Array UInt8} : CO c k .NotEq (.byt a) (.byt b) (a.toList != b.toList) := by
  intro A s β v₁ v₂ Q _ _ _ r1 r2 hQ
  obtain ⟨t1, rfl⟩ := r1.inv_byt; obtain ⟨t2, rfl⟩ := r2.inv_byt
  exact ne_bytes (hQ s.heap s.toks (Kp.refl _))
theorem tr_int {a : Int} : TR c k (.int a) (a != 0) := by
  intro A s β v Q _ _ _ r hQ
  obtain ⟨t1, rfl⟩ := r.inv_int
  exact PyProof.Rows.truthy_int (hQ s.heap s.toks (Kp.refl _))
theorem tr_bool {b : Bool} : TR c k (.bool b) b := by
  intro A s β v Q _ _ _ r hQ
  cases r.inv_bool
  exact wpAny_truthy_bool (hQ s.heap s.toks (Kp.refl _))
end
end Mine

open PySem PySem.W PySem.W.X PyProof.Rows PySem.Calls PySem.Spec
set_option Elab.async false
namespace Mine
set_option maxRecDepth 100000
set_option maxHeartbeats 1000000
set_option linter.unusedVariables false

section
variable {c : Cx} {k : Nat} {A : Around} {env : Env} {β₀ : View} {h₀ : Heap} {s₀ : Shared} {ρ σ : DEnv} {η : Hid} {K : Flow → Shared → Prop} {rest : List Stmt}

/-- what comes behind a statement -/
def Kseq (c : Cx) (A : Around) (env : Env) (rest : List Stmt) (K : Flow → Shared → Prop) : Flow → Shared → Prop := fun f s' => match f with
  | .next => wpAny (model c.prog c.w) A (execs rest env) K (fun _ _ => False) s'
  | f => K f s'

theorem x_nil (h : ∀ s', St c env β₀ h₀ ρ σ η s₀ s' → K .next s') : SX c k A env β₀ h₀ s₀ ρ σ η [] K := fun _ _ s' S => wpAny_execs_nil (h s' S)
theorem x_seq (h : SX c k A env β₀ h₀ s₀ ρ σ η rest K) : SX c k A env β₀ h₀ s₀ ρ σ η [] (Kseq c A env rest K) := fun ha hb s' S => wpAny_execs_nil (h ha hb s' S)
theorem x_forget {ρ' : DEnv} {ss : List Stmt} (hr : ∀ x d, ρ'.lookup x = some d → ρ.lookup x = some d) (h : SX c k A env β₀ h₀ s₀ ρ' σ η ss K) : SX c k A env β₀ h₀ s₀ ρ σ η ss K := fun ha hb s' S => by
  obtain ⟨h', t, β, own, rfl, S⟩ := S
  exact h ha hb _ ⟨h', t, β, own, rfl, S.forget hr⟩

def KindOk (env : Env) (x : Str) : Prop := env.kindOf x = some .local ∨ (env.kindOf x = some .cell ∧ ((cellsP env).lookup x).isSome = true)

/-- x = e, the datum read without the frame's own objects -/
theorem x_assign {x : Str} {p' pos : Pos} {e : Expr} {d : Dat} (he : EV c k env ρ e d) (hσ : σ.lookup x = none) (hx : KindOk env x) (h : SX c k A env β₀ h₀ s₀ ((x, d) :: ρ) σ η rest K)
    (hs : swapsWith e (some (.Name x p')) pos.line env = pure false := by rfl) : SX c k A env β₀ h₀ s₀ ρ σ η (.Assign [.Name x p'] e pos :: rest) K := by
  rintro ha hb _ ⟨h', t, β, own, rfl, S⟩
  refine wpAny_execs_cons (wpAny_Assign_Name (he A _ β _ ha (hb.kp S.nx.kp) S.nx.sub S.vars fun v h1 β1 t1 n1 r1 => ?_) hs)
  exact store (s := { s₀ with heap := h1, toks := t1 }) (S.later n1) r1 hσ hx fun h2 t2 S2 => h ha hb _ ⟨h2, t2, β1, own, rfl, S2⟩

/-- x = e, a datum that is no object -/
theorem x_assign_imm {x : Str} {p' pos : Pos} {e : Expr} {d : Dat} (he : EV c k env (ρ ++ σ) e d) (hi : Imm d) (hσ : σ.lookup x = none) (hx : KindOk env x) (h : SX c k A env β₀ h₀ s₀ ((x, d) :: ρ) σ η rest K)
    (hs : swapsWith e (some (.Name x p')) pos.line env = pure false := by rfl) : SX c k A env β₀ h₀ s₀ ρ σ η (.Assign [.Name x p'] e pos :: rest) K := by
  rintro ha hb _ ⟨h', t, β, own, rfl, S⟩
  refine wpAny_execs_cons (wpAny_Assign_Name (he A _ (plus β h' own) _ ha (hb.kp S.nx.kp) S.sub_plus S.vars_plus fun v h1 β1 t1 n1 r1 => ?_) hs)
  exact store (s := { s₀ with heap := h1, toks := t1 }) (S.later (Nx.keep S.nx.sub n1.kp)) (r1.imm hi) hσ hx fun h2 t2 S2 => h ha hb _ ⟨h2, t2, β, own, rfl, S2⟩

theorem plus_nx {h1 : Heap} {h' : Heap} {β β1 : View} {own : List Addr} (S : StB c env β₀ h₀ ρ σ η h' β own) (n : Nx (plus β h' own) h' β1 h1) : Nx β₀ h₀ β1 h1 := by
  refine ⟨S.nx.kp.trans n.kp, fun a o e => n.ext _ _ (S.ext_plus _ _ (S.nx.ext _ _ e)), n.sub, fun a o e e0 => ?_⟩
  cases q : plus β h' own a with
  | some o' =>
    unfold plus at q
    by_cases ha : a ∈ own
    · exact S.p0 a (own_priv ha)
    · rw [if_neg ha] at q; exact S.nx.new a o' q e0
  | none =>
    have := n.new a o e q
    cases z : h₀.get? a with
    | none => rfl
    | some o' => rw [S.nx.kp _ _ z] at this; cases this

theorem x_return {e : Expr} {pos : Pos} {d : Dat} (he : EV c k env (ρ ++ σ) e d) (hK : ∀ v h' β' t, Nx β₀ h₀ β' h' → Rd c β' v d → K (.ret v) { s₀ with heap := h', toks := t }) : SX c k A env β₀ h₀ s₀ ρ σ η (.Return (some e) pos :: rest) K := by
  rintro ha hb _ ⟨h', t, β, own, rfl, S⟩
  refine wpAny_execs_cons (wpAny_Return_some (he A _ (plus β h' own) _ ha (hb.kp S.nx.kp) S.sub_plus S.vars_plus fun v h1 β1 t1 n1 r1 => ?_))
  exact hK v h1 β1 t1 (plus_nx S n1) r1

theorem x_if {t : Expr} {b1 b2 : List Stmt} {pos : Pos} {b : Bool} (ht : ET c k env (ρ ++ σ) t b) (h1 : b = true → SX c k A env β₀ h₀ s₀ ρ σ η b1 (Kseq c A env rest K)) (h2 : b = false → SX c k A env β₀ h₀ s₀ ρ σ η b2 (Kseq c A env rest K)) :
    SX c k A env β₀ h₀ s₀ ρ σ η (.If t b1 b2 pos :: rest) K := by
  rintro ha hb _ ⟨h', t, β, own, rfl, S⟩
  refine wpAny_execs_cons (wpAny_If (ht A _ (plus β h' own) _ ha (hb.kp S.nx.kp) S.sub_plus S.vars_plus fun h3 β3 t3 n3 => ?_))
  have S3 : St c env β₀ h₀ ρ σ η s₀ { s₀ with heap := h3, toks := t3 } := ⟨h3, t3, β, own, rfl, S.later (Nx.keep S.nx.sub n3.kp)⟩
  cases b with
  | true => exact wpAny_mono (h1 rfl ha hb _ S3) (fun f s' q => by cases f <;> exact q) fun _ _ q => q
  | false => exact wpAny_mono (h2 rfl ha hb _ S3) (fun f s' q => by cases f <;> exact q) fun _ _ q => q

theorem x_break {pos : Pos} (h : ∀ s', St c env β₀ h₀ ρ σ η s₀ s' → K .brk s') : SX c k A env β₀ h₀ s₀ ρ σ η (.Break pos :: rest) K := fun _ _ s' S => wpAny_execs_cons (wpAny_Break (h s' S))

/-- x op= e on ints -/
theorem x_aug {x : Str} {p' pos : Pos} {op : Operator} {e : Expr} {a b z : Int} (hx : (ρ ++ σ).lookup x = some (.int a)) (he : EV c k env (ρ ++ σ) e (.int b)) (hσ : σ.lookup x = none) (hk : KindOk env x)
    (ho : ∀ (A : Around) (s : Shared) (t u : Tok) (Q : Value → Shared → Prop), AOk k A → Base c s.heap → (∀ u' t', Q (.int z u') { s with toks := t' }) → wpAny (model c.prog c.w) A (inplaceOp op (.int a t) (.int b u)) Q (fun _ _ => False) s)
    (h : SX c k A env β₀ h₀ s₀ ((x, .int z) :: ρ) σ η rest K) : SX c k A env β₀ h₀ s₀ ρ σ η (.AugAssign (.Name x p') op e pos :: rest) K := by
  rintro ha hb _ ⟨h', t, β, own, rfl, S⟩
  refine wpAny_execs_cons (wpAny_AugAssign_Name ?_)
  obtain ⟨v, r, l⟩ := S.vars_plus.at' x _ hx
  obtain ⟨t1, rfl⟩ := r.inv_int
  have fin : wpAny (model c.prog c.w) A (eval e env) (fun v s₂ => wpAny (model c.prog c.w) A (inplaceOp op (.int a t1) v) (fun r s₃ => wpAny (model c.prog c.w) A (storeName env x r) (fun _ s' => wpAny (model c.prog c.w) A (execs rest env) K (fun _ _ => False) s') (fun _ _ => False) s₃) (fun _ _ => False) s₂) (fun _ _ => False) { s₀ with heap := h', toks := t } := by
    refine he A _ (plus β h' own) _ ha (hb.kp S.nx.kp) S.sub_plus S.vars_plus fun v h1 β1 t2 n1 r1 => ?_
    obtain ⟨t3, rfl⟩ := r1.inv_int
    refine ho A _ _ _ _ ha ((hb.kp S.nx.kp).kp n1.kp) fun u' t4 => ?_
    exact store (s := { s₀ with heap := h1, toks := t4 }) (S.later (Nx.keep S.nx.sub n1.kp)) (.int _ _) hσ hk fun h2 t2 S2 => h ha hb _ ⟨h2, t2, β, own, rfl, S2⟩
  rcases l with ⟨e1, m, n, q⟩ | ⟨e1 | e1, ad, l, q⟩
  · exact wpAny_loadName_local S.vars.fk e1 n q fin
  · exact wpAny_loadName_cell S.vars.fk e1 l q fin
  · rcases hk with hk | ⟨hk, _⟩
    · rw [e1] at hk; cases hk
    · rw [e1] at hk; cases hk

/-- the frame gets an object of its own -/
theorem own_put {x : Str} {a : Addr} {d : Dat} {h1 : Heap} {t : Nat} {β : View} {own : List Addr} {Q : Unit → Shared → Prop} (S : StB c env β₀ h₀ ρ σ η h1 β own) (ha : a ∉ priv env (own ++ η.map (·.1))) (hβ : β a = none) (h0 : h₀.get? a = none) (ho : OwnAt c β h1 a d)
    (hρ : ρ.lookup x = none) (hσ : σ.lookup x = none) (hx : KindOk env x)
    (hQ : ∀ h' t', StB c env β₀ h₀ ρ ((x, d) :: σ) η h' β (a :: own) → Q () { s₀ with heap := h', toks := t' }) : wpAny (model c.prog c.w) A (storeName env x (.ref a)) Q (fun _ _ => False) { s₀ with heap := h1, toks := t } := by
  have S1 := S
  have hp : (env.scope.kind == .class || (env.scope.kind == .module && env.locals != env.globals)) = false := by rw [S.vars.fk]; rfl
  have pm : ∀ b, b ∈ priv env (a :: own ++ η.map (·.1)) → b = a ∨ b ∈ priv env (own ++ η.map (·.1)) := fun b hb => by
    rcases List.mem_cons.mp hb with e | hb
    · exact .inr (by rw [e]; exact List.mem_cons_self)
    · rcases List.mem_append.mp hb with hb | hb
      · exact .inr (List.mem_cons_of_mem _ (List.mem_append_left _ hb))
      · rcases List.mem_cons.mp hb with e | hb
        · exact .inl e
        · exact .inr (List.mem_cons_of_mem _ (List.mem_append_right _ hb))
  have pd : (priv env (a :: own ++ η.map (·.1))).Nodup := by
    have hd := S.pd
    unfold priv at hd ha ⊢
    rw [List.cons_append]
    rw [List.nodup_cons] at hd ⊢
    refine ⟨fun hm => ?_, ?_⟩
    · rcases List.mem_append.mp hm with hm | hm
      · exact hd.1 (List.mem_append_left _ hm)
      · rcases List.mem_cons.mp hm with e | hm
        · exact ha (by rw [← e]; exact List.mem_cons_self)
        · exact hd.1 (List.mem_append_right _ hm)
    · rw [List.nodup_append] at hd ⊢
      refine ⟨hd.2.1, ?_, fun u hu v hv e => ?_⟩
      · rw [List.nodup_cons]
        exact ⟨fun hm => ha (List.mem_cons_of_mem _ (List.mem_append_right _ hm)), hd.2.2.1⟩
      · rcases List.mem_cons.mp hv with e' | hv
        · subst e; exact ha (by rw [← e']; exact List.mem_cons_of_mem _ (List.mem_append_left _ hu))
        · exact hd.2.2.2 u hu v hv e
  have done : ∀ h' t', (∀ b, b ≠ env.locals → (∀ ad, (cellsP env).lookup x = some ad → env.kindOf x = some .cell → b ≠ ad) → h'.get? b = h1.get? b) → (∃ m, h'.Ns env.locals m) → (∀ b ∈ (cellsP env).map (·.2), ∃ v, h'.IsCell b v) →
      (∀ y v', y ≠ x → Look env h1 y v' → Look env h' y v') → Look env h' x (.ref a) → Nx β₀ h₀ β h' → Q () { s₀ with heap := h', toks := t' } := by
    intro h' t' hoth hfr hcl hlk hxa nx
    have other : ∀ b, b ∈ own ++ η.map (·.1) ∨ b = a → h'.get? b = h1.get? b := fun b hb => by
      refine hoth b (fun e => ?_) fun ad had _ e => ?_
      · rcases hb with hb | hb
        · exact priv_ne_own S.pd List.mem_cons_self hb e.symm
        · exact ha (by rw [← hb, e]; exact List.mem_cons_self)
      · rcases hb with hb | hb
        · exact priv_ne_own S.pd (List.mem_cons_of_mem _ (lookup_mem had)) hb e.symm
        · exact ha (by rw [← hb, e]; exact List.mem_cons_of_mem _ (List.mem_append_left _ (lookup_mem had)))
    refine hQ h' t' ⟨nx, ⟨S.vars.fk, S.vars.gl, S.vars.bl, fun y d' e => ?_⟩, pd, fun b hb => ?_, fun b hb => ?_, hfr, hcl, by simp [S.ol], fun i y d' b q1 q2 => ?_, fun p hp => ?_, S.fc⟩
    · obtain ⟨v', r', l⟩ := S1.vars.at' y d' e
      exact ⟨v', r', hlk y v' (lookup_none_ne hρ e) l⟩
    · rcases pm b hb with e | e
      · rw [e]; exact hβ
      · exact S.pb b e
    · rcases pm b hb with e | e
      · rw [e]; exact h0
      · exact S.p0 b e
    · cases i with
      | zero =>
        simp at q1 q2
        obtain ⟨rfl, rfl⟩ := q1
        subst q2
        exact ⟨hxa, ho.at (fun _ _ e => e) (other a (.inr rfl))⟩
      | succ i =>
        simp at q1 q2
        obtain ⟨l, o⟩ := S1.ow i y d' b q1 q2
        exact ⟨hlk y _ (idx_ne hσ q1) l, o.at (fun _ _ e => e) (other b (.inl (List.mem_append_left _ (List.mem_of_getElem? q2))))⟩
    · obtain ⟨o, e, q⟩ := S1.hi p hp
      exact ⟨o, (other _ (.inl (List.mem_append_right _ (List.mem_map_of_mem hp)))).trans e, q⟩
  rcases hx with hx | ⟨hx, hc⟩
  · obtain ⟨m, hm⟩ := S1.fr
    refine wpAny_storeName_local hx hm (fun h' hn hs => done h' _ (fun b ne _ => hs.2 b ne) ⟨_, hn⟩ (fun b hb => ?_) (fun y v' ne l => look_local (fun _ => S.cellLocals) hm hn hs ne l) (.inl ⟨hx, _, hn, by simp⟩) (S1.priv_step List.mem_cons_self fun b o ne e => (hs.2 b ne).trans e)) hp
    obtain ⟨v', q⟩ := S1.cl b hb
    exact ⟨v', q.sameBut hs (priv_ne_cell S.pd hb).symm⟩
  · obtain ⟨ad, had⟩ := Option.isSome_iff_exists.mp hc
    obtain ⟨v₀, hv₀⟩ := S1.cl ad (lookup_mem had)
    refine wpAny_storeName_cell S.vars.fk hx (cellsP_of had ▸ had) hv₀ fun h' hn hs => done h' _ (fun b _ h2 => hs.2 b (h2 ad had hx)) ?_ (fun b hb => ?_) (fun y v' ne l => look_cell S.pd had hs ne l) (.inr ⟨.inl hx, ad, cellsP_of had ▸ had, hn⟩) (S1.priv_step (List.mem_cons_of_mem _ (List.mem_append_left _ (lookup_mem had))) fun b o ne e => (hs.2 b ne).trans e)
    · obtain ⟨m, hm⟩ := S1.fr
      exact ⟨m, hm.sameBut hs (priv_ne_cell S.pd (lookup_mem had))⟩
    · by_cases e : b = ad
      · subst e; exact ⟨_, hn⟩
      · obtain ⟨v', q⟩ := S1.cl b hb
        exact ⟨v', q.sameBut hs e⟩
theorem own_new {x : Str} {a : Addr} {d : Dat} {h h1 : Heap} {t : Nat} {β : View} {own : List Addr} {Q : Unit → Shared → Prop} (S : StB c env β₀ h₀ ρ σ η h β own) (kp : Kp h h1) (hn : h.get? a = none) (ho : OwnAt c β h1 a d)
    (hρ : ρ.lookup x = none) (hσ : σ.lookup x = none) (hx : KindOk env x)
    (hQ : ∀ h' t', StB c env β₀ h₀ ρ ((x, d) :: σ) η h' β (a :: own) → Q () { s₀ with heap := h', toks := t' }) : wpAny (model c.prog c.w) A (storeName env x (.ref a)) Q (fun _ _ => False) { s₀ with heap := h1, toks := t } := by
  refine own_put (S.later (Nx.keep S.nx.sub kp)) (fun hm => by obtain ⟨o, e⟩ := S.mem_get hm; rw [hn] at e; cases e) ?_ ?_ ho hρ hσ hx hQ
  · cases q : β a with
    | none => rfl
    | some o => have := S.nx.sub _ _ q; rw [hn] at this; cases this
  · cases q : h₀.get? a with
    | none => rfl
    | some o => have := S.nx.kp _ _ q; rw [hn] at this; cases this
end
end Mine

open PySem PySem.W PySem.W.X PyProof.Rows PySem.Calls PySem.Spec
set_option Elab.async false
namespace Mine
set_option maxRecDepth 100000
set_option maxHeartbeats 1000000
set_option linter.unusedVariables false

section
variable {prog : Program} {w : World} {A : Around} {s : Shared} {env : Env} {R : Result → Shared → Prop}
/-- one turn of a for -/
theorem for_turn {target : Expr} {it : Value} {body orelse : List Stmt}
    (h : wpAny (model prog w) A (pyNext it) (fun r s₁ => match r with
      | none => wpAny (model prog w) A (execs orelse env) (fun f s₃ => R (.ok f) s₃) (fun _ _ => False) s₁
      | some v => wpAny (model prog w) A (letOwnedTupleGo target it v) (fun _ s₁' =>
          wpAny (model prog w) A (assign target env v) (fun _ s₂ => wpAny (model prog w) A (execs body env) (fun f s₃ => match f with
            | .next | .cont => codeAny (model prog w) A (.forLoop target it body orelse env) R s₃
            | .brk => R (.ok .next) s₃
            | .ret v => R (.ok (.ret v)) s₃) (fun _ _ => False) s₂) (fun _ _ => False) s₁') (fun _ _ => False) s₁) (fun _ _ => False) s) :
    codeAny (model prog w) A (.forLoop target it body orelse env) R s := by
  refine codeAny_loop' rfl (fun _ s' => s' = s) (fun n s' hI => ?_) 0 rfl
  subst hI
  show wpAny _ A ((forTurn target it body orelse env).onRaise (fun x => do noteFrame x env; theTreesLotGoes x)) _ _ s'
  refine wpAny_noted ?_
  simp only [forTurn]
  refine wpAny_noRaise ?_
  refine wpAny_bind (wpAny_standAt (wpAny_bind (wpAny_onRaise (wpAny_mono h (fun r s₁ h₁ => ?_) fun _ _ h' => h'.elim))))
  cases r with
  | none => exact wpAny_pure (.inr ⟨rfl, codeAny_block (wpAny_noRaise h₁)⟩)
  | some v =>
    refine wpAny_bind (wpAny_mono h₁ (fun _ s₁' h₁' => ?_) fun _ _ h' => h')
    refine wpAny_bind (wpAny_mono h₁' (fun _ s₂ h₂ => wpAny_bind (wpAny_mono h₂ (fun f s₃ h₃ => ?_) fun _ _ h' => h')) fun _ _ h' => h')
    cases f with
    | next => exact wpAny_pure (.inr ⟨rfl, h₃⟩)
    | cont => exact wpAny_pure (.inr ⟨rfl, h₃⟩)
    | brk => exact wpAny_pure h₃
    | ret v => exact wpAny_pure h₃

/-- one turn of a while -/
theorem while_turn {test : Expr} {body orelse : List Stmt}
    (h : wpAny (model prog w) A (isTrue test env (eval test env)) (fun b s₁ => if b = true then
        wpAny (model prog w) A (execs body env) (fun f s₃ => match f with
            | .next | .cont => codeAny (model prog w) A (.whileLoop test body orelse env) R s₃
            | .brk => R (.ok .next) s₃
            | .ret v => R (.ok (.ret v)) s₃) (fun _ _ => False) s₁
        else wpAny (model prog w) A (execs orelse env) (fun f s₃ => R (.ok f) s₃) (fun _ _ => False) s₁) (fun _ _ => False) s) :
    codeAny (model prog w) A (.whileLoop test body orelse env) R s := by
  refine codeAny_loop' rfl (fun _ s' => s' = s) (fun n s' hI => ?_) 0 rfl
  subst hI
  show wpAny _ A ((whileTurn test body orelse env).onRaise (fun x => do noteFrame x env; theTreesLotGoes x)) _ _ s'
  refine wpAny_noted ?_
  simp only [whileTurn]
  refine wpAny_noRaise ?_
  refine wpAny_bind (wpAny_mono h (fun b s₁ h₁ => ?_) fun _ _ h' => h')
  cases b with
  | true =>
    simp only [if_true] at h₁ ⊢
    refine wpAny_bind (wpAny_mono h₁ (fun f s₃ h₃ => ?_) fun _ _ h' => h')
    cases f with
    | next => exact wpAny_pure (.inr ⟨rfl, h₃⟩)
    | cont => exact wpAny_pure (.inr ⟨rfl, h₃⟩)
    | brk => exact wpAny_pure h₃
    | ret v => exact wpAny_pure h₃
  | false =>
    simp only [Bool.false_eq_true, if_false] at h₁ ⊢
    exact wpAny_bind (wpAny_mono h₁ (fun f s₃ h₃ => wpAny_pure h₃) fun _ _ h' => h')
end

def HidAt (h : Heap) (η : Hid) : Prop := ∀ p ∈ η, ∃ o, h.get? p.1 = some o ∧ p.2 o

/-- an iterator at work: its objects step by step -/
structure Iter (c : Cx) (k : Nat) (target : Expr) (β : View) (I : Addr) (It : Nat → Hid) (ds : List Dat) (adrs : List Addr) : Prop where
  item : ∀ (A : Around) (s : Shared) (i : Nat) (d : Dat) (β' : View) (Q : Value → Shared → Prop), AOk k A → Base c s.heap → Ext β β' → Sub β' s.heap → (∀ a ∈ adrs, β' a = none) → HidAt s.heap (It i) → ds[i]? = some d →
    (∀ v h' β'' t, (∀ b o, b ∉ adrs → s.heap.get? b = some o → h'.get? b = some o) → Ext β' β'' → Sub β'' h' → (∀ a o, β'' a = some o → β' a = none → s.heap.get? a = none) → HidAt h' (It (i + 1)) → Rd c β'' v d → Q v { s with heap := h', toks := t }) →
    wpAny (model c.prog c.w) A (pyNext (.ref I)) (fun r s₁ => ∃ v, r = some v ∧ wpAny (model c.prog c.w) A (letOwnedTupleGo target (.ref I) v) (fun _ s₂ => Q v s₂) (fun _ _ => False) s₁) (fun _ _ => False) s
  done : ∀ (A : Around) (s : Shared) (β' : View) (Q : Shared → Prop), AOk k A → Base c s.heap → Ext β β' → Sub β' s.heap → HidAt s.heap (It ds.length) →
    (∀ h' t, (∀ b o, b ∉ adrs → s.heap.get? b = some o → h'.get? b = some o) → Q { s with heap := h', toks := t }) →
    wpAny (model c.prog c.w) A (pyNext (.ref I)) (fun r s₁ => r = none ∧ Q s₁) (fun _ _ => False) s
  self : ∀ (A : Around) (s : Shared) (i : Nat) (Q E : Value → Shared → Prop), HidAt s.heap (It i) → Q (.ref I) s → wpAny (model c.prog c.w) A (pyIter (.ref I)) Q E s

/-- what a for runs over -/
def EI (c : Cx) (k : Nat) (env : Env) (ρ : DEnv) (target : Expr) (e : Expr) (ds : List Dat) : Prop :=
  ∀ (A : Around) (s : Shared) (β : View) (Q : Value → Shared → Prop), AOk k A → Base c s.heap → Sub β s.heap → Vars c env ρ β s.heap →
    (∀ I It adrs h' β' t, Nx β s.heap β' h' → (∀ a ∈ adrs, s.heap.get? a = none ∧ β' a = none) → adrs.Nodup → (∀ i, (It i).map (·.1) = adrs) → HidAt h' (It 0) → Iter c k target β' I It ds adrs → Q (.ref I) { s with heap := h', toks := t }) →
    wpAny (model c.prog c.w) A (eval e env) (fun x s₁ => wpAny (model c.prog c.w) A (pyIter x) Q (fun _ _ => False) s₁) (fun _ _ => False) s

section
variable {c : Cx} {env : Env} {β₀ : View} {h₀ : Heap} {ρ σ : DEnv} {η : Hid} {h h' : Heap} {β β' : View} {own : List Addr}

theorem hid_nodup {hid : Hid} (pd : (priv env (own ++ η.map (·.1))).Nodup) (hn : (hid.map (·.1)).Nodup) (hf : ∀ a ∈ hid.map (·.1), a ∉ priv env (own ++ η.map (·.1))) : (priv env (own ++ (hid ++ η).map (·.1))).Nodup := by
  unfold priv at *
  rw [List.map_append]
  rw [List.nodup_cons, List.nodup_append, List.nodup_append] at pd
  obtain ⟨p1, p2, ⟨p3, p4, p5⟩, p6⟩ := pd
  have hf' : ∀ a, a ∈ hid.map (·.1) → a ≠ env.locals ∧ a ∉ (cellsP env).map (·.2) ∧ a ∉ own ∧ a ∉ η.map (·.1) := fun a ha => by
    have := hf a ha
    simp only [List.mem_cons, List.mem_append, not_or] at this
    exact ⟨this.1, this.2.1, this.2.2.1, this.2.2.2⟩
  rw [List.nodup_cons, List.nodup_append, List.nodup_append, List.nodup_append]
  refine ⟨?_, p2, ⟨p3, ⟨hn, p4, fun a ha b hb e => (hf' a ha).2.2.2 (e ▸ hb)⟩, fun a ha b hb e => ?_⟩, fun a ha b hb e => ?_⟩
  · intro hm
    simp only [List.mem_append] at hm p1
    rcases hm with hm | hm | hm | hm
    · exact p1 (.inl hm)
    · exact p1 (.inr (.inl hm))
    · exact (hf' _ hm).1 rfl
    · exact p1 (.inr (.inr hm))
  · rcases List.mem_append.mp hb with hb | hb
    · exact (hf' b hb).2.2.1 (e ▸ ha)
    · exact p5 a ha b hb e
  · rcases List.mem_append.mp hb with hb | hb
    · exact p6 a ha b (List.mem_append_left _ hb) e
    · rcases List.mem_append.mp hb with hb | hb
      · exact (hf' b hb).2.1 (e ▸ ha)
      · exact p6 a ha b (List.mem_append_right _ hb) e
theorem hid_mem {hid : Hid} {a : Addr} (h : a ∈ priv env (own ++ (hid ++ η).map (·.1))) : a ∈ hid.map (·.1) ∨ a ∈ priv env (own ++ η.map (·.1)) := by
  unfold priv at *
  simp only [List.map_append, List.mem_cons, List.mem_append] at h ⊢
  rcases h with h | h | h | h | h
  · exact .inr (.inl h)
  · exact .inr (.inr (.inl h))
  · exact .inr (.inr (.inr (.inl h)))
  · exact .inl h
  · exact .inr (.inr (.inr (.inr h)))
theorem mem_hid {hid : Hid} {a : Addr} (h : a ∈ hid.map (·.1) ∨ a ∈ priv env (own ++ η.map (·.1))) : a ∈ priv env (own ++ (hid ++ η).map (·.1)) := by
  unfold priv at *
  simp only [List.map_append, List.mem_cons, List.mem_append] at h ⊢
  rcases h with h | h | h | h | h
  · exact .inr (.inr (.inr (.inl h)))
  · exact .inl h
  · exact .inr (.inl h)
  · exact .inr (.inr (.inl h))
  · exact .inr (.inr (.inr (.inr h)))

theorem StB.hide {hid : Hid} (S : StB c env β₀ h₀ ρ σ η h β own) (n : Nx β h β' h') (hf : ∀ a ∈ hid.map (·.1), h.get? a = none ∧ β' a = none) (hn : (hid.map (·.1)).Nodup) (hg : HidAt h' hid) : StB c env β₀ h₀ ρ σ (hid ++ η) h' β' own := by
  have S1 := S.later n
  have out : ∀ a ∈ hid.map (·.1), a ∉ priv env (own ++ η.map (·.1)) := fun a ha hm => by obtain ⟨o, e⟩ := S.mem_get hm; rw [(hf a ha).1] at e; cases e
  refine ⟨S1.nx, S1.vars, hid_nodup S.pd hn out, fun a ha => ?_, fun a ha => ?_, S1.fr, S1.cl, S1.ol, S1.ow, fun p hp => ?_, S1.fc⟩
  · rcases hid_mem ha with q | q
    · exact (hf a q).2
    · exact S1.pb a q
  · rcases hid_mem ha with q | q
    · cases z : h₀.get? a with
      | none => rfl
      | some o => have := S.nx.kp _ _ z; rw [(hf a q).1] at this; cases this
    · exact S1.p0 a q
  · rcases List.mem_append.mp hp with q | q
    · exact hg p q
    · exact S1.hi p q
theorem StB.unhide {hid : Hid} (S : StB c env β₀ h₀ ρ σ (hid ++ η) h β own) : StB c env β₀ h₀ ρ σ η h β own := by
  refine ⟨S.nx, S.vars, ?_, fun a ha => S.pb a (mem_hid (.inr ha)), fun a ha => S.p0 a (mem_hid (.inr ha)), S.fr, S.cl, S.ol, S.ow, fun p hp => S.hi p (List.mem_append_right _ hp), S.fc⟩
  have pd := S.pd
  unfold priv at *
  rw [List.map_append] at pd
  rw [List.nodup_cons, List.nodup_append, List.nodup_append, List.nodup_append] at pd
  obtain ⟨p1, p2, ⟨p3, ⟨_, p4, _⟩, p5⟩, p6⟩ := pd
  rw [List.nodup_cons, List.nodup_append, List.nodup_append]
  refine ⟨fun hm => p1 ?_, p2, ⟨p3, p4, fun a ha b hb e => p5 a ha b (List.mem_append_right _ hb) e⟩, fun a ha b hb e => p6 a ha b ?_ e⟩
  · simp only [List.mem_append] at hm ⊢
    rcases hm with hm | hm | hm
    · exact .inl hm
    · exact .inr (.inl hm)
    · exact .inr (.inr (.inr hm))
  · simp only [List.mem_append] at hb ⊢
    rcases hb with hm | hm
    · exact .inl hm
    · exact .inr (.inr hm)
theorem StB.off {hid : Hid} (S : StB c env β₀ h₀ ρ σ (hid ++ η) h β own) {b : Addr} (hb : b ∈ priv env (own ++ η.map (·.1))) : b ∉ hid.map (·.1) := fun hm => by
  have pd := S.pd
  unfold priv at pd hb
  rw [List.map_append, List.nodup_cons, List.nodup_append, List.nodup_append, List.nodup_append] at pd
  obtain ⟨p1, p2, ⟨p3, ⟨_, p4, p4'⟩, p5⟩, p6⟩ := pd
  simp only [List.mem_cons, List.mem_append] at hb
  rcases hb with hb | hb | hb | hb
  · subst hb; exact p1 (by simp only [List.mem_append]; exact .inr (.inr (.inl hm)))
  · exact p6 b hb b (by simp only [List.mem_append]; exact .inr (.inl hm)) rfl
  · exact p5 b hb b (by simp only [List.mem_append]; exact .inl hm) rfl
  · exact p4' b hm b hb rfl
/-- the base moves on -/
theorem StB.base (S : StB c env β₀ h₀ ρ σ η h β own) : StB c env β h₀ ρ σ η h β own :=
  ⟨⟨S.nx.kp, fun _ _ e => e, S.nx.sub, fun a o e e0 => by rw [e0] at e; cases e⟩, S.vars, S.pd, S.pb, S.p0, S.fr, S.cl, S.ol, S.ow, S.hi, S.fc⟩
theorem StB.rebase {β₂ : View} {h₂ : Heap} (S : StB c env β₂ h₀ ρ σ η h β own) (n : Nx β₀ h₀ β₂ h₂) : StB c env β₀ h₀ ρ σ η h β own := by
  refine ⟨⟨S.nx.kp, fun a o e => S.nx.ext _ _ (n.ext _ _ e), S.nx.sub, fun a o e e0 => ?_⟩, S.vars, S.pd, S.pb, S.p0, S.fr, S.cl, S.ol, S.ow, S.hi, S.fc⟩
  cases q : β₂ a with
  | some o' => exact n.new a o' q e0
  | none => exact S.nx.new a o e q
/-- the hidden objects step on -/
theorem StB.stepHid {hid hid' : Hid} (S : StB c env β₀ h₀ ρ σ (hid ++ η) h β own) (ha : hid'.map (·.1) = hid.map (·.1)) (hk : ∀ b o, b ∉ hid.map (·.1) → h.get? b = some o → h'.get? b = some o)
    (hx : Ext β β') (hs : Sub β' h') (hw : ∀ a o, β' a = some o → β a = none → h.get? a = none) (hg : HidAt h' hid') : StB c env β₀ h₀ ρ σ (hid' ++ η) h' β' own := by
  have pe : priv env (own ++ (hid' ++ η).map (·.1)) = priv env (own ++ (hid ++ η).map (·.1)) := by rw [List.map_append, ha, ← List.map_append]
  have off : ∀ b, b ∈ priv env (own ++ η.map (·.1)) → b ∉ hid.map (·.1) := fun b hb => S.off hb
  have keep0 : Kp h₀ h' := fun b o e => hk b o (fun hm => by have := S.p0 b (mem_hid (.inl hm)); rw [e] at this; cases this) (S.nx.kp b o e)
  have look : ∀ x v, Look env h x v → Look env h' x v := fun x v l => by
    rcases l with ⟨e, m, n, q⟩ | ⟨e, a, l, q⟩
    · exact .inl ⟨e, m, n.at' fun o e' => hk _ o (off _ List.mem_cons_self) e', q⟩
    · obtain ⟨o, ho, hd⟩ := q
      exact .inr ⟨e, a, l, o, hk _ o (fun hm => S.cellOwn l (List.mem_append_right _ (by rw [List.map_append]; exact List.mem_append_left _ hm)) rfl) ho, hd⟩
  refine ⟨⟨keep0, fun a o e => hx _ _ (S.nx.ext _ _ e), hs, fun a o e e0 => ?_⟩, ⟨S.vars.fk, S.vars.gl, S.vars.bl, fun x d e => ?_⟩, pe ▸ S.pd, fun a hm => ?_, fun a hm => S.p0 a (pe ▸ hm), ?_, fun a hm => ?_, S.ol, fun i x d a q1 q2 => ?_, fun p hp => ?_, S.fc⟩
  · cases q : β a with
    | some o' => exact S.nx.new a o' q e0
    | none =>
      have := hw a o e q
      cases z : h₀.get? a with
      | none => rfl
      | some o' => rw [S.nx.kp _ _ z] at this; cases this
  · obtain ⟨v, r, l⟩ := S.vars.at' x d e
    exact ⟨v, r.mono hx, look x v l⟩
  · rw [pe] at hm
    cases q : β' a with
    | none => rfl
    | some o =>
      have := hw a o q (S.pb a hm)
      obtain ⟨o', e⟩ := S.mem_get hm
      rw [e] at this; cases this
  · obtain ⟨m, hm⟩ := S.fr
    exact ⟨m, hm.at' fun o e' => hk _ o (off _ List.mem_cons_self) e'⟩
  · obtain ⟨v, o, ho, hd⟩ := S.cl a hm
    exact ⟨v, o, hk _ o (off _ (List.mem_cons_of_mem _ (List.mem_append_left _ hm))) ho, hd⟩
  · obtain ⟨l, o⟩ := S.ow i x d a q1 q2
    obtain ⟨ob, e⟩ := o.get
    exact ⟨look x _ l, o.at hx ((hk _ _ (off _ (own_priv (List.mem_of_getElem? q2))) e).trans e.symm)⟩
  · rcases List.mem_append.mp hp with q | q
    · exact hg p q
    · obtain ⟨o, e, z⟩ := S.hi p (List.mem_append_right _ q)
      exact ⟨o, hk _ _ (off _ (hid_priv (List.mem_map_of_mem q))) e, z⟩
/-- the hidden objects are let go -/
theorem StB.dropHid {hid : Hid} (S : StB c env β₀ h₀ ρ σ (hid ++ η) h β own) (hk : ∀ b o, b ∉ hid.map (·.1) → h.get? b = some o → h'.get? b = some o) : StB c env β₀ h₀ ρ σ η h' β own := by
  have off : ∀ b, b ∈ priv env (own ++ η.map (·.1)) → b ∉ hid.map (·.1) := fun b hb => S.off hb
  have S' := S.unhide
  have keep0 : Kp h₀ h' := fun b o e => hk b o (fun hm => by have := S.p0 b (mem_hid (.inl hm)); rw [e] at this; cases this) (S.nx.kp b o e)
  have look : ∀ x v, Look env h x v → Look env h' x v := fun x v l => by
    rcases l with ⟨e, m, n, q⟩ | ⟨e, a, l, q⟩
    · exact .inl ⟨e, m, n.at' fun o e' => hk _ o (off _ List.mem_cons_self) e', q⟩
    · obtain ⟨o, ho, hd⟩ := q
      exact .inr ⟨e, a, l, o, hk _ o (fun hm => S.cellOwn l (List.mem_append_right _ (by rw [List.map_append]; exact List.mem_append_left _ hm)) rfl) ho, hd⟩
  refine ⟨⟨keep0, S.nx.ext, fun a o e => hk a o (fun hm => by have := S.pb a (mem_hid (.inl hm)); rw [e] at this; cases this) (S.nx.sub a o e), S.nx.new⟩, ⟨S.vars.fk, S.vars.gl, S.vars.bl, fun x d e => ?_⟩, S'.pd, S'.pb, S'.p0, ?_, fun a hm => ?_, S.ol, fun i x d a q1 q2 => ?_, fun p hp => ?_, S.fc⟩
  · obtain ⟨v, r, l⟩ := S.vars.at' x d e
    exact ⟨v, r, look x v l⟩
  · obtain ⟨m, hm⟩ := S.fr
    exact ⟨m, hm.at' fun o e' => hk _ o (off _ List.mem_cons_self) e'⟩
  · obtain ⟨v, o, ho, hd⟩ := S.cl a hm
    exact ⟨v, o, hk _ o (off _ (List.mem_cons_of_mem _ (List.mem_append_left _ hm))) ho, hd⟩
  · obtain ⟨l, o⟩ := S.ow i x d a q1 q2
    obtain ⟨ob, e⟩ := o.get
    exact ⟨look x _ l, o.at (fun _ _ e => e) ((hk _ _ (off _ (own_priv (List.mem_of_getElem? q2))) e).trans e.symm)⟩
  · obtain ⟨o, e, z⟩ := S'.hi p hp
    exact ⟨o, hk _ _ (off _ (hid_priv (List.mem_map_of_mem hp))) e, z⟩
end

/-- a target takes a datum -/
def AS (c : Cx) (k : Nat) (env : Env) (target : Expr) (d : Dat) (ρ ρ' σ : DEnv) : Prop :=
  ∀ (A : Around) (s₀ : Shared) (β₀ : View) (h₀ : Heap) (η : Hid) (h : Heap) (t : Nat) (β : View) (own : List Addr) (v : Value) (Q : Unit → Shared → Prop), AOk k A → Base c h₀ → StB c env β₀ h₀ ρ σ η h β own → Rd c β v d →
    (∀ s', St c env β₀ h₀ ρ' σ η s₀ s' → Q () s') → wpAny (model c.prog c.w) A (assign target env v) Q (fun _ _ => False) { s₀ with heap := h, toks := t }

section
variable {c : Cx} {k : Nat} {A : Around} {env : Env} {β₀ : View} {h₀ : Heap} {s₀ : Shared} {ρ σ : DEnv} {η : Hid} {K : Flow → Shared → Prop} {rest : List Stmt}

theorem as_name {x : Str} {pos : Pos} {d : Dat} (hσ : σ.lookup x = none) (hx : KindOk env x) : AS c k env (.Name x pos) d ρ ((x, d) :: ρ) σ := by
  intro A s₀ β₀ h₀ η h t β own v Q ha hb S r hQ
  exact wpAny_assign_Name (store (s := { s₀ with heap := h, toks := t }) S r hσ hx fun h' t' S' => hQ _ ⟨h', t', β, own, rfl, S'⟩)

/-- for: turn by turn, the data of each turn said ahead -/
theorem x_for_to {target iter : Expr} {body orelse : List Stmt} {pos : Pos} {ds : List Dat} (m₀ : Nat) (ρs σs : Nat → DEnv) (ρe σe : DEnv) (hi : EI c k env ρ target iter ds)
    (h0 : ∀ x d, (ρs 0).lookup x = some d → ρ.lookup x = some d) (hσ : σs 0 = σ)
    (turn : ∀ i d, ds[i]? = some d → i ≤ m₀ → ∃ ρ', AS c k env target d (ρs i) ρ' (σs i) ∧ ∀ β₁ η', SX c k A env β₁ h₀ s₀ ρ' (σs i) η' body (fun f s' => match f with
      | .next | .cont => i < m₀ ∧ St c env β₁ h₀ (ρs (i + 1)) (σs (i + 1)) η' s₀ s'
      | .brk => St c env β₁ h₀ ρe σe η' s₀ s'
      | .ret _ => False))
    (done : ds.length ≤ m₀ → SX c k A env β₀ h₀ s₀ (ρs ds.length) (σs ds.length) η orelse (fun f s' => match f with
      | .next => St c env β₀ h₀ ρe σe η s₀ s'
      | _ => False))
    (hr : SX c k A env β₀ h₀ s₀ ρe σe η rest K) (hs : ∀ x, foldedSetIterable iter env x = pure x := by intro _; rfl) : SX c k A env β₀ h₀ s₀ ρ σ η (.For target iter body orelse pos :: rest) K := by
  rintro ha hb _ ⟨h, t, β, own, rfl, S⟩
  refine wpAny_execs_cons (wpAny_For (hi A _ β _ ha (hb.kp S.nx.kp) S.nx.sub S.vars fun I It adrs h1 β1 t1 n1 hf hn hadr hg hit => ?_) hs)
  have S1 : StB c env β₀ h₀ (ρs 0) (σs 0) (It 0 ++ η) h1 β1 own := by
    rw [hσ]
    refine ((S.forget h0).hide n1 (fun a hm => hf a ?_) ?_ hg)
    · rw [hadr] at hm; exact hm
    · rw [hadr]; exact hn
  have key : ∀ m i, i + m = ds.length → i ≤ m₀ → ∀ h2 t2 β2 own2, Ext β1 β2 → StB c env β₀ h₀ (ρs i) (σs i) (It i ++ η) h2 β2 own2 →
      codeAny (model c.prog c.w) A (.forLoop target (.ref I) body orelse env) (fun r s' => match r with | .ok f => Kseq c A env rest K f s' | .error e => cameBackBy (model c.prog c.w) A env (fun _ _ => False) e s') { s₀ with heap := h2, toks := t2 } := by
    intro m
    induction m with
    | zero =>
      intro i him hm₀ h2 t2 β2 own2 hx2 S2
      have him : i = ds.length := by omega
      subst him
      refine for_turn (wpAny_mono (hit.done A _ β2 (fun s1 => wpAny (model c.prog c.w) A (execs orelse env) (fun f s₃ => Kseq c A env rest K f s₃) (fun _ _ => False) s1) ha (hb.kp S2.nx.kp) hx2 S2.nx.sub (fun p hp => S2.hi p (List.mem_append_left _ hp)) (fun h3 t3 hk3 => ?_)) (fun r s1 q => ?_) fun _ _ q => q)
      · have S4 : StB c env β₀ h₀ (ρs ds.length) (σs ds.length) η h3 β2 own2 := S2.dropHid fun b o hm e => hk3 b o (by rw [hadr] at hm; exact hm) e
        refine wpAny_mono (done hm₀ ha hb _ ⟨h3, t3, β2, own2, rfl, S4⟩) (fun f s' q => ?_) fun _ _ q => q
        cases f with
        | next => exact hr ha hb s' q
        | _ => exact q.elim
      · obtain ⟨rfl, q⟩ := q
        exact q
    | succ m ih =>
      intro i him hm₀ h2 t2 β2 own2 hx2 S2
      have hlt : i < ds.length := by omega
      obtain ⟨ρ', has, hsx⟩ := turn i ds[i] (List.getElem?_eq_getElem hlt) hm₀
      have hadr' : ∀ a ∈ adrs, β2 a = none := fun a hm => S2.pb a (mem_hid (.inl (by rw [hadr]; exact hm)))
      refine for_turn (wpAny_mono (hit.item A _ i ds[i] β2 (fun v s1 => wpAny (model c.prog c.w) A (assign target env v) (fun _ s₂ => wpAny (model c.prog c.w) A (execs body env) (fun f s₃ => match f with
          | .next | .cont => codeAny (model c.prog c.w) A (.forLoop target (.ref I) body orelse env) (fun r s' => match r with | .ok f => Kseq c A env rest K f s' | .error e => cameBackBy (model c.prog c.w) A env (fun _ _ => False) e s') s₃
          | .brk => Kseq c A env rest K .next s₃
          | .ret v => Kseq c A env rest K (.ret v) s₃) (fun _ _ => False) s₂) (fun _ _ => False) s1) ha (hb.kp S2.nx.kp) hx2 S2.nx.sub hadr' (fun p hp => S2.hi p (List.mem_append_left _ hp)) (List.getElem?_eq_getElem hlt) (fun v h3 β3 t3 hk3 hx3 hs3 hw3 hg3 r3 => ?_)) (fun r s1 q => ?_) fun _ _ q => q)
      · have S3 : StB c env β₀ h₀ (ρs i) (σs i) (It (i + 1) ++ η) h3 β3 own2 := S2.stepHid (by rw [hadr, hadr]) (fun b o hm e => hk3 b o (by rw [hadr] at hm; exact hm) e) hx3 hs3 hw3 hg3
        have n3 := S3.nx
        refine has A s₀ β3 h₀ _ h3 t3 β3 own2 v _ ha hb S3.base r3 fun s4 S4 => ?_
        refine wpAny_mono (hsx β3 _ ha hb s4 S4) (fun f s5 q => ?_) fun _ _ q => q
        have nxt : i < m₀ ∧ St c env β3 h₀ (ρs (i + 1)) (σs (i + 1)) (It (i + 1) ++ η) s₀ s5 → codeAny (model c.prog c.w) A (.forLoop target (.ref I) body orelse env) (fun r s' => match r with | .ok f => Kseq c A env rest K f s' | .error e => cameBackBy (model c.prog c.w) A env (fun _ _ => False) e s') s5 := by
          rintro ⟨hlt₀, h5, t5, β5, own5, rfl, S5⟩
          exact ih (i + 1) (by omega) (by omega) h5 t5 β5 own5 (fun a o e => S5.nx.ext _ _ (hx3 _ _ (hx2 _ _ e))) (S5.rebase n3)
        cases f with
        | next => exact nxt q
        | cont => exact nxt q
        | brk =>
          obtain ⟨h5, t5, β5, own5, rfl, S5⟩ := q
          exact hr ha hb _ ⟨h5, t5, β5, own5, rfl, (S5.rebase n3).unhide⟩
        | ret v => exact q.elim
      · obtain ⟨v, rfl, q⟩ := q
        exact q
  exact codeAny_mono (key ds.length 0 (by omega) (by omega) h1 t1 β1 own (fun _ _ e => e) S1) fun r s' q => by
    cases r with
    | ok f => cases f <;> exact q
    | error e => exact q

/-- for: turn by turn, the data of each turn said ahead -/
theorem x_for {target iter : Expr} {body orelse : List Stmt} {pos : Pos} {ds : List Dat} (ρs σs : Nat → DEnv) (ρe σe : DEnv) (hi : EI c k env ρ target iter ds)
    (h0 : ∀ x d, (ρs 0).lookup x = some d → ρ.lookup x = some d) (hσ : σs 0 = σ)
    (turn : ∀ i d, ds[i]? = some d → ∃ ρ', AS c k env target d (ρs i) ρ' (σs i) ∧ ∀ β₁ η', SX c k A env β₁ h₀ s₀ ρ' (σs i) η' body (fun f s' => match f with
      | .next | .cont => St c env β₁ h₀ (ρs (i + 1)) (σs (i + 1)) η' s₀ s'
      | .brk => St c env β₁ h₀ ρe σe η' s₀ s'
      | .ret _ => False))
    (done : SX c k A env β₀ h₀ s₀ (ρs ds.length) (σs ds.length) η orelse (fun f s' => match f with
      | .next => St c env β₀ h₀ ρe σe η s₀ s'
      | _ => False))
    (hr : SX c k A env β₀ h₀ s₀ ρe σe η rest K) (hs : ∀ x, foldedSetIterable iter env x = pure x := by intro _; rfl) : SX c k A env β₀ h₀ s₀ ρ σ η (.For target iter body orelse pos :: rest) K := by
  refine x_for_to ds.length ρs σs ρe σe hi h0 hσ (fun i d hd _ => ?_) (fun _ => done) hr hs
  obtain ⟨ρ', has, hsx⟩ := turn i d hd
  refine ⟨ρ', has, fun β₁ η' ha hb s' S => wpAny_mono (hsx β₁ η' ha hb s' S) (fun f s5 q => ?_) fun _ _ q => q⟩
  have hlt : i < ds.length := (List.getElem?_eq_some_iff.mp hd).1
  cases f with
  | next => exact ⟨hlt, q⟩
  | cont => exact ⟨hlt, q⟩
  | brk => exact q
  | ret v => exact q
end
end Mine

open PySem PySem.W PySem.W.X PyProof.Rows PySem.Calls PySem.Spec
set_option Elab.async false
namespace Mine
set_option maxRecDepth 100000
set_option maxHeartbeats 1000000
set_option linter.unusedVariables false

/-- the plain iterators hand out no tuple of their own -/
theorem go_plain {M : Model} {A : Around} {E : Value → Shared → Prop} {s : Shared} {target : Expr} {I : Addr} {v : Value} {o : Obj} {n : String} {Q : Unit → Shared → Prop} (ho : s.heap.get? I = some o) (hc : o.cls = .type n)
    (hn : (["enumerate", "zip", "dict_itemiterator", "dict_reverseitemiterator", "odict_iterator", "itertools.zip_longest", "itertools.pairwise"].contains n) = false) (h : Q () s) : wpAny M A (letOwnedTupleGo target (.ref I) v) Q E s := by
  have body : wpAny M A (do
      let (.ref r, .ref a) := (Value.ref I, v) | return
      let o ← load r
      match o.cls, o.data with
      | .type n, .fields vs =>
        if ["enumerate", "zip", "dict_itemiterator", "dict_reverseitemiterator", "odict_iterator", "itertools.zip_longest", "itertools.pairwise"].contains n && vs[0]? == some (rawInt a) then
          rule "for.unpacks-the-owned-tuple"
          updateField r 0 .none
      | _, _ => pure () : Sem Unit) Q E s := by
    cases v with
    | ref a =>
      refine wpAny_bind (wpAny_load ho ?_)
      rw [hc]
      cases o.data with
      | fields vs =>
        show wpAny M A (if _ = true then _ else _) Q E s
        rw [if_neg (by rw [hn, Bool.false_and]; exact Bool.false_ne_true)]
        exact wpAny_pure h
      | _ => exact wpAny_pure h
    | _ => exact wpAny_pure h
  unfold letOwnedTupleGo
  cases target with
  | Tuple => exact body
  | List => exact body
  | _ => exact wpAny_pure h

section
variable {c : Cx} {k : Nat} {env : Env} {ρ : DEnv}

/-- an iterator that is one object -/
theorem iter_one {target : Expr} {β : View} {I : Addr} {P : Nat → Obj → Prop} {ds : List Dat} {n : String}
    (hn : (["enumerate", "zip", "dict_itemiterator", "dict_reverseitemiterator", "odict_iterator", "itertools.zip_longest", "itertools.pairwise"].contains n) = false) (hc : ∀ i o, P i o → o.cls = .type n)
    (item : ∀ (A : Around) (s : Shared) (i : Nat) (d : Dat) (β' : View) (Q : Option Value → Shared → Prop) (o : Obj), AOk k A → Base c s.heap → Ext β β' → Sub β' s.heap → s.heap.get? I = some o → P i o → ds[i]? = some d →
      (∀ v h' o' t, Heap.SameBut I s.heap h' → h'.get? I = some o' → P (i + 1) o' → Rd c β' v d → Q (some v) { s with heap := h', toks := t }) → wpAny (model c.prog c.w) A (pyNext (.ref I)) Q (fun _ _ => False) s)
    (done : ∀ (A : Around) (s : Shared) (β' : View) (Q : Option Value → Shared → Prop) (o : Obj), AOk k A → Base c s.heap → Ext β β' → Sub β' s.heap → s.heap.get? I = some o → P ds.length o →
      (∀ h' t, Heap.ExtBut I s.heap h' → Q none { s with heap := h', toks := t }) → wpAny (model c.prog c.w) A (pyNext (.ref I)) Q (fun _ _ => False) s)
    (self : ∀ (A : Around) (s : Shared) (i : Nat) (o : Obj) (Q E : Value → Shared → Prop), s.heap.get? I = some o → P i o → Q (.ref I) s → wpAny (model c.prog c.w) A (pyIter (.ref I)) Q E s) :
    Iter c k target β I (fun i => [(I, P i)]) ds [I] := by
  refine ⟨fun A s i d β' Q ha hb hx hs had hh hd hQ => ?_, fun A s β' Q ha hb hx hs hh hQ => ?_, fun A s i Q E hh hQ => let ⟨o, ho, hp⟩ := hh (I, P i) List.mem_cons_self; self A s i o Q E ho hp hQ⟩
  · obtain ⟨o, ho, hp⟩ := hh (I, P i) List.mem_cons_self
    refine item A s i d β' _ o ha hb hx hs ho hp hd fun v h' o' t hsb ho' hp' r => ⟨v, rfl, ?_⟩
    refine go_plain ho' (hc _ _ hp') hn (hQ v h' β' t (fun b ob hm e => (hsb.2 b fun q => hm (by rw [q]; exact List.mem_cons_self)).trans e) (fun _ _ e => e) (fun a ob e => (hsb.2 a fun q => ?_).trans (hs a ob e)) (fun a ob e e0 => by rw [e0] at e; cases e) (fun p hp => ?_) r)
    · rw [q, had I List.mem_cons_self] at e; cases e
    · rcases List.mem_cons.mp hp with rfl | hp
      · exact ⟨o', ho', hp'⟩
      · cases hp
  · obtain ⟨o, ho, hp⟩ := hh (I, P ds.length) List.mem_cons_self
    exact done A s β' _ o ha hb hx hs ho hp fun h' t hx' => ⟨rfl, hQ h' t fun b ob hm e => hx' b ob (fun q => hm (by rw [q]; exact List.mem_cons_self)) e⟩

theorem ei_one {target e : Expr} {d : Dat} {ds : List Dat} (he : EV c k env ρ e d)
    (hi : ∀ (A : Around) (s : Shared) (β : View) (v : Value) (Q : Value → Shared → Prop), AOk k A → Base c s.heap → Sub β s.heap → Rd c β v d →
      (∀ (o : Obj) (P : Nat → Obj → Prop), o.isFreed = false → P 0 o → Iter c k target β s.heap.objs.size (fun i => [(s.heap.objs.size, P i)]) ds [s.heap.objs.size] → Q (.ref s.heap.objs.size) { s with heap := s.heap.push o }) → wpAny (model c.prog c.w) A (pyIter v) Q (fun _ _ => False) s) :
    EI c k env ρ target e ds := by
  intro A s β Q ha hb hs V hQ
  refine he A s β _ ha hb hs V fun v h1 β1 t1 n1 r1 => ?_
  refine hi A _ β1 v _ ha (hb.kp n1.kp) n1.sub r1 fun o P hf hp it => ?_
  have none1 : h1.get? h1.objs.size = none := Heap.get?_none_of_le (Nat.le_refl _)
  have kp1 : Kp h1 (h1.push o) := fun _ _ e => Heap.get?_push_of_some _ e
  refine hQ h1.objs.size (fun i => [(h1.objs.size, P i)]) [h1.objs.size] (h1.push o) β1 t1 (n1.trans (Nx.keep n1.sub kp1)) (fun a hm => ?_) (by simp) (fun _ => rfl) (fun p hp' => ?_) it
  · rw [List.mem_singleton.mp hm]
    constructor
    · cases q : s.heap.get? h1.objs.size with
      | none => rfl
      | some o' => have := n1.kp _ _ q; rw [none1] at this; cases this
    · cases q : β1 h1.objs.size with
      | none => rfl
      | some o' => have := n1.sub _ _ q; rw [none1] at this; cases this
  · rw [List.mem_singleton.mp hp']
    exact ⟨o, Heap.get?_push_size _ hf, hp⟩

theorem ei_list {target e : Expr} {ds : List Dat} (he : EV c k env ρ e (.lst ds)) : EI c k env ρ target e ds := by
  refine ei_one he fun A s β v Q ha hb hs r hQ => ?_
  obtain ⟨a, vs, n, rfl, hβ, rs⟩ := r.inv_lst
  have isl : ∀ (β' : View) (h : Heap), Ext β β' → Sub β' h → h.IsList a vs.toArray := fun β' h hx hs' => ⟨_, hs' a _ (hx _ _ hβ), rfl, n, rfl⟩
  refine wpAny_pyIter_list (isl β s.heap (fun _ _ e => e) hs) (hQ _ (fun i o => o.cls = .type "list_iterator" ∧ o.data = .fields #[.ref a, .int i 0]) rfl ⟨rfl, rfl⟩ ?_)
  refine iter_one (n := "list_iterator") (by decide) (fun i o h => h.1) (fun A s i d β' Q o ha hb hx hs ho hp hd hQ => ?_) (fun A s β' Q o ha hb hx hs ho hp hQ => ?_) (fun A s i o Q E ho hp hQ => wpAny_pyIter_listiter ⟨o, ho, hp⟩ hQ)
  · obtain ⟨v, hv, rv⟩ := rs.get hd
    refine wpAny_pyNext_list_item ⟨o, ho, hp⟩ (isl β' s.heap hx hs) (by simpa using hv) fun h' hit' hsb => ?_
    obtain ⟨o', ho', hp'⟩ := hit'
    exact hQ v h' o' _ hsb ho' hp' (rv.mono hx)
  · exact wpAny_pyNext_list_end ha.hh ⟨o, ho, hp⟩ (isl β' s.heap hx hs) (by simp [rs.1]) fun h' hx' => hQ h' _ hx'

theorem ei_tuple {target e : Expr} {ds : List Dat} (he : EV c k env ρ e (.tup ds)) : EI c k env ρ target e ds := by
  refine ei_one he fun A s β v Q ha hb hs r hQ => ?_
  obtain ⟨a, vs, n, rfl, hβ, rs⟩ := r.inv_tup
  have isl : ∀ (β' : View) (h : Heap), Ext β β' → Sub β' h → h.IsTuple a vs.toArray := fun β' h hx hs' => ⟨_, hs' a _ (hx _ _ hβ), rfl, n, rfl⟩
  refine wpAny_pyIter_tuple (isl β s.heap (fun _ _ e => e) hs) (hQ _ (fun i o => o.cls = .type "tuple_iterator" ∧ o.data = .fields #[.ref a, .int i 0]) rfl ⟨rfl, rfl⟩ ?_)
  refine iter_one (n := "tuple_iterator") (by decide) (fun i o h => h.1) (fun A s i d β' Q o ha hb hx hs ho hp hd hQ => ?_) (fun A s β' Q o ha hb hx hs ho hp hQ => ?_) (fun A s i o Q E ho hp hQ => wpAny_pyIter_tupleiter ⟨o, ho, hp⟩ hQ)
  · obtain ⟨v, hv, rv⟩ := rs.get hd
    refine wpAny_pyNext_tuple_item ⟨o, ho, hp⟩ (isl β' s.heap hx hs) (by simpa using hv) fun h' hit' hsb => ?_
    obtain ⟨o', ho', hp'⟩ := hit'
    exact hQ v h' o' _ hsb ho' hp' (rv.mono hx)
  · exact wpAny_pyNext_tuple_end ha.hh ⟨o, ho, hp⟩ (isl β' s.heap hx hs) (by simp [rs.1]) fun h' hx' => hQ h' _ hx'

theorem ei_bytes {target e : Expr} {b : Array UInt8} (he : EV c k env ρ e (.byt b)) : EI c k env ρ target e (b.toList.map fun x => .int (x.toNat : Int)) := by
  refine ei_one he fun A s β v Q ha hb hs r hQ => ?_
  obtain ⟨t, rfl⟩ := r.inv_byt
  refine KBw.pyIter_bytes (hQ _ (fun i o => o.cls = .type "bytes_iterator" ∧ o.data = .fields #[.bytes b t, .int i 0]) rfl ⟨rfl, rfl⟩ ?_)
  refine iter_one (n := "bytes_iterator") (by decide) (fun i o h => h.1) (fun A s i d β' Q o ha hb hx hs ho hp hd hQ => ?_) (fun A s β' Q o ha hb hx hs ho hp hQ => ?_) (fun A s i o Q E ho hp hQ => KBw.pyIter_self ⟨o, ho, hp⟩ hQ)
  · rw [List.getElem?_map, Option.map_eq_some_iff] at hd
    obtain ⟨x, hx', rfl⟩ := hd
    refine KBw.next_item ⟨o, ho, hp⟩ (by simpa using hx') fun h' hit' hsb => ?_
    obtain ⟨o', ho', hp'⟩ := hit'
    exact hQ _ h' o' _ hsb ho' hp' (.int _ _)
  · exact KBw.next_end ha.hh ⟨o, ho, hp⟩ (by simp) fun h' hx' => hQ h' _ hx'

theorem Rd.inv_rng {β : View} {v : Value} {a b e : Int} (r : Rd c β v (.rng a b e)) : ∃ x t u w, v = .ref x ∧ β x = some { cls := .type "range", data := .fields #[.int a t, .int b u, .int e w] } := by cases r with | rng h => exact ⟨_, _, _, _, rfl, h⟩

theorem ei_range {target e : Expr} {a b st : Int} {n : Nat} (he : EV c k env ρ e (.rng a b st)) (hsm : Builtin.Range.small a b st = true) (hn : Builtin.Range.rangeSize a b st = (n : Int)) : EI c k env ρ target e ((List.range n).map fun (i : Nat) => .int (a + (i : Int) * st)) := by
  refine ei_one he fun A s β v Q ha hb hs r hQ => ?_
  obtain ⟨x, t, u, w', rfl, hβ⟩ := r.inv_rng
  refine wpAny_pyIter_range (hs _ _ hβ) hsm (hQ _ (fun (i : Nat) o => o = { cls := .type "range_iterator", data := .fields #[rawInt (a + (i : Int) * st), rawInt ((n : Int) - (i : Int)), rawInt st] }) rfl (by rw [hn]; simp) ?_)
  refine iter_one (n := "range_iterator") (by decide) (fun i o h => by rw [h]) (fun A s i d β' Q o ha hb hx hs ho hp hd hQ => ?_) (fun A s β' Q o ha hb hx hs ho hp hQ => ?_) (fun A s i o Q E ho hp hQ => wpAny_pyIter_rangeiter (hp ▸ ho) hQ)
  · rw [List.getElem?_map, Option.map_eq_some_iff] at hd
    obtain ⟨j, hj, rfl⟩ := hd
    have hjl : i < n := by
      rcases Nat.lt_or_ge i n with q | q
      · exact q
      · rw [List.getElem?_eq_none (by simpa using q)] at hj; cases hj
    rw [List.getElem?_range hjl] at hj
    cases hj
    refine wpAny_pyNext_range_item (hp ▸ ho) (by omega) fun h' hit' hsb => ?_
    refine hQ _ h' _ _ hsb hit' ?_ (.int _ _)
    have e1 : a + ((i + 1 : Nat) : Int) * st = a + (i : Int) * st + st := by push_cast; rw [Int.add_mul, Int.one_mul, Int.add_assoc]
    have e2 : (n : Int) - ((i + 1 : Nat) : Int) = (n : Int) - (i : Int) - 1 := by push_cast; omega
    rw [e1, e2]
  · have hl : ((List.range n).map fun (i : Nat) => Dat.int (a + (i : Int) * st)).length = n := by simp
    rw [hl] at hp
    exact wpAny_pyNext_range_end ha.hh (hp ▸ ho) (by omega) fun h' hx' => hQ h' _ hx'

/-- range(n) -/
theorem fs_range1 {n : Int} : FS c k (.type "range") [.int n] (.rng 0 n 1) := by
  intro A s β vs Q ha hb hs r hQ
  obtain ⟨v, vs', rfl, r1, r2⟩ := r.inv_cons
  cases r2.inv_nil
  obtain ⟨t, rfl⟩ := r1.inv_int
  exact call_range_1 (hQ _ _ _ _ (push_nx hs rfl) (.rng put_at))
theorem fs_range2 {m n : Int} : FS c k (.type "range") [.int m, .int n] (.rng m n 1) := by
  intro A s β vs Q ha hb hs r hQ
  obtain ⟨v, vs', rfl, r1, r2⟩ := r.inv_cons
  obtain ⟨v', vs'', rfl, r3, r4⟩ := r2.inv_cons
  cases r4.inv_nil
  obtain ⟨t, rfl⟩ := r1.inv_int
  obtain ⟨t', rfl⟩ := r3.inv_int
  exact call_range_2 (hQ _ _ _ _ (push_nx hs rfl) (.rng put_at))

/-- a new list of plain data -/
def EF (c : Cx) (k : Nat) (env : Env) (ρ : DEnv) (e : Expr) (ds : List Dat) : Prop :=
  ∀ (A : Around) (s : Shared) (β : View) (Q : Value → Shared → Prop), AOk k A → Base c s.heap → Sub β s.heap → Vars c env ρ β s.heap →
    (∀ a vs n h' t, Kp s.heap h' → s.heap.get? a = none → h'.get? a = some (lstO vs n) → (∀ β', Rds c β' vs ds) → Q (.ref a) { s with heap := h', toks := t }) → wpAny (model c.prog c.w) A (eval e env) Q (fun _ _ => False) s
theorem Rds.imm {β β' : View} {vs : List Value} {ds : List Dat} (r : Rds c β vs ds) (hi : ∀ d ∈ ds, Imm d) : Rds c β' vs ds := ⟨r.1, fun i v d h1 h2 => (r.2 i v d h1 h2).imm (hi d (List.mem_of_getElem? h2))⟩
theorem ef_list {es : List Expr} {pos : Pos} {ds : List Dat} (he : EL c k env ρ es ds) (hl : ds.length ≤ 10000) (hi : ∀ d ∈ ds, Imm d) : EF c k env ρ (.List es pos) ds := by
  intro A s β Q ha hb hs V hQ
  refine wpAny_List_spliced (he.run pos A s β _ ha hb hs V fun vs h' β' t n r => ⟨?_, ?_⟩)
  · rw [r.1, sizeLine_eq]; omega
  · refine hQ _ vs 0 _ t (n.kp.trans fun _ _ e => Heap.get?_push_of_some _ e) ?_ (Heap.get?_push_size _ rfl) fun β'' => r.imm hi
    cases q : s.heap.get? h'.objs.size with
    | none => rfl
    | some o' => have := n.kp _ _ q; rw [Heap.get?_none_of_le (Nat.le_refl _)] at this; cases this

variable {A : Around} {β₀ : View} {h₀ : Heap} {s₀ : Shared} {σ : DEnv} {η : Hid} {K : Flow → Shared → Prop} {rest : List Stmt}

/-- x = [..], the frame's own from now on -/
theorem x_own {x : Str} {p' pos : Pos} {e : Expr} {ds : List Dat} (he : EF c k env (ρ ++ σ) e ds) (hρ : ρ.lookup x = none) (hσ : σ.lookup x = none) (hx : KindOk env x) (h : SX c k A env β₀ h₀ s₀ ρ ((x, .lst ds) :: σ) η rest K)
    (hs : swapsWith e (some (.Name x p')) pos.line env = pure false := by rfl) : SX c k A env β₀ h₀ s₀ ρ σ η (.Assign [.Name x p'] e pos :: rest) K := by
  rintro ha hb _ ⟨h', t, β, own, rfl, S⟩
  refine wpAny_execs_cons (wpAny_Assign_Name (he A _ (plus β h' own) _ ha (hb.kp S.nx.kp) S.sub_plus S.vars_plus fun a vs n h1 t1 kp1 hn1 ho1 r1 => ?_) hs)
  exact own_new (d := .lst ds) S kp1 hn1 ⟨vs, n, ho1, r1 β⟩ hρ hσ hx fun h2 t2 S2 => h ha hb _ ⟨h2, t2, β, a :: own, rfl, S2⟩

/-- one of the frame's own objects changes -/
theorem StB.setOwn {h h' : Heap} {β : View} {own : List Addr} {i : Nat} {x : Str} {d d' : Dat} {a : Addr} (S : StB c env β₀ h₀ ρ σ η h β own) (hi : σ[i]? = some (x, d)) (ha : own[i]? = some a)
    (hs : ∀ b o, b ≠ a → h.get? b = some o → h'.get? b = some o) (ho : OwnAt c β h' a d') : StB c env β₀ h₀ ρ (σ.set i (x, d')) η h' β own := by
  have hm : a ∈ own := List.mem_of_getElem? ha
  have hp : a ∈ priv env (own ++ η.map (·.1)) := own_priv hm
  have look : ∀ y v, Look env h y v → Look env h' y v := fun y v l => by
    rcases l with ⟨e, m, n, q⟩ | ⟨e, b, l, q⟩
    · exact .inl ⟨e, m, n.at' fun o e' => hs _ o (priv_ne_own S.pd List.mem_cons_self (List.mem_append_left _ hm)) e', q⟩
    · obtain ⟨o, ho, hd⟩ := q
      exact .inr ⟨e, b, l, o, hs _ o (S.cellOwn l (List.mem_append_left _ hm)) ho, hd⟩
  have nd : (own ++ η.map (·.1)).Nodup := by
    have pd := S.pd
    unfold priv at pd
    rw [List.nodup_cons, List.nodup_append] at pd
    exact pd.2.2.1
  refine ⟨S.priv_step hp hs, ⟨S.vars.fk, S.vars.gl, S.vars.bl, fun y d e => ?_⟩, S.pd, S.pb, S.p0, ?_, fun b hb => ?_, by simp [S.ol], fun j y d b q1 q2 => ?_, fun p hp' => ?_, S.fc⟩
  · obtain ⟨v, r, l⟩ := S.vars.at' y d e
    exact ⟨v, r, look y v l⟩
  · obtain ⟨m, hm'⟩ := S.fr
    exact ⟨m, hm'.at' fun o e' => hs _ o (priv_ne_own S.pd List.mem_cons_self (List.mem_append_left _ hm)) e'⟩
  · obtain ⟨v, o, ho, hd⟩ := S.cl b hb
    exact ⟨v, o, hs _ o (priv_ne_own S.pd (List.mem_cons_of_mem _ hb) (List.mem_append_left _ hm)) ho, hd⟩
  · by_cases hij : i = j
    · subst hij
      rw [ha] at q2; cases q2
      obtain ⟨li, _⟩ := List.getElem?_eq_some_iff.mp hi
      rw [List.getElem?_set_self li] at q1
      cases q1
      exact ⟨look _ _ (S.ow i _ _ a hi ha).1, ho⟩
    · rw [List.getElem?_set_ne hij] at q1
      obtain ⟨l, o⟩ := S.ow j y d b q1 q2
      have ne : b ≠ a := fun e => by
        subst e
        have n1 : own.Nodup := (List.nodup_append.mp nd).1
        obtain ⟨l1, e1⟩ := List.getElem?_eq_some_iff.mp ha
        obtain ⟨l2, e2⟩ := List.getElem?_eq_some_iff.mp q2
        rcases Nat.lt_or_gt_of_ne hij with lt | lt
        · exact (List.pairwise_iff_getElem.mp n1) i j l1 l2 lt (e1.trans e2.symm)
        · exact (List.pairwise_iff_getElem.mp n1) j i l2 l1 lt (e2.trans e1.symm)
      obtain ⟨ob, e⟩ := o.get
      exact ⟨look y _ l, o.at (fun _ _ e => e) ((hs _ _ ne e).trans e.symm)⟩
  · obtain ⟨o, e, q⟩ := S.hi p hp'
    refine ⟨o, hs _ _ (fun z => ?_) e, q⟩
    exact (List.nodup_append.mp nd).2.2 a hm p.1 (List.mem_map_of_mem hp') z.symm

/-- x.append(e) -/
theorem x_append {x : Str} {px apos pos epos : Pos} {e : Expr} {ds : List Dat} {d : Dat} {i : Nat} (hi : σ[i]? = some (x, .lst ds)) (he : EV c k env (ρ ++ σ) e d) (hd : Imm d) (hl : ds.length ≤ 10000)
    (hbase : attributeBase (.Name x px) "append" env (eval (.Name x px) env) = eval (.Name x px) env)
    (hline : (apos.endLine == pos.line) = true) (htrees : backTo pos (starEach [e] env) = [(false, eval e env)])
    (hfew : ((backTo pos (starEach [e] env)).all (fun x => !x.1) && (backToKw pos (keywordEach [] env)).all (fun x => x.1.isSome) && decide (([e] : List Expr).length + ([] : List Keyword).length + (if ([] : List Keyword).isEmpty then 0 else 1) < 30)) = true)
    (h : SX c k A env β₀ h₀ s₀ ρ (σ.set i (x, .lst (ds ++ [d]))) η rest K)
    (hdbg : (x == ("__debug__" : Str)) = false := by decide) (hcd : (x == ("__classdict__" : Str)) = false := by decide) (hin : interactive env = false := by rfl)
    (hsw : swapsWith (.Call (.Attribute (.Name x px) "append" apos) [e] [] pos) none epos.line env = pure false := by rfl) :
    SX c k A env β₀ h₀ s₀ ρ σ η (.Expr (.Call (.Attribute (.Name x px) "append" apos) [e] [] pos) epos :: rest) K := by
  rintro ha hb _ ⟨h', t, β, own, rfl, S⟩
  refine wpAny_execs_cons (wpAny_Expr ?_ hin hsw)
  have li : i < σ.length := (List.getElem?_eq_some_iff.mp hi).1
  have lo : i < own.length := by rw [← S.ol]; exact li
  have hown : own[i]? = some own[i] := List.getElem?_eq_getElem lo
  obtain ⟨lk, vs, n, ho, rs⟩ := S.ow i x _ own[i] hi hown
  refine wpAny_Call_append hbase hfew hline htrees ?_
  have fin : ∃ D its, Value.ref own[i] = .ref D ∧ PlainL h' D its ∧ wpAny (model c.prog c.w) A (eval e env) (fun y s₂ => wpAny (model c.prog c.w) A (call (.builtin "list.append") [.ref D, y]) (fun v s' => match v with | .ref _ => False | _ => (fun f s' => match f with | Flow.next => wpAny (model c.prog c.w) A (execs rest env) K (fun _ _ => False) s' | f => K f s') .next s') (fun _ _ => False) s₂) (fun _ _ => False) { s₀ with heap := h', toks := t } := by
    refine ⟨own[i], vs.toArray, rfl, ⟨_, n, ho, rfl, rfl, rfl⟩, ?_⟩
    refine he A _ (plus β h' own) _ ha (hb.kp S.nx.kp) S.sub_plus S.vars_plus fun v h1 β1 t1 n1 r1 => ?_
    have S1 := S.later (Nx.keep S.nx.sub n1.kp)
    refine wpAny_list_append_plain (items := vs.toArray) ⟨n, n1.kp _ _ ho⟩ (fun h2 hl2 hs2 => ?_) (by rw [List.size_toArray, rs.1, sizeLine_eq]; omega)
    obtain ⟨n2, e2⟩ := hl2
    refine h ha hb _ ⟨h2, t1, β, own, rfl, S1.setOwn hi hown (fun b o ne e => (hs2.2 b ne).trans e) ⟨vs ++ [v], n2, ?_, rs.snoc (r1.imm hd)⟩⟩
    rw [e2]; simp
  rcases lk with ⟨e1, m, nn, q⟩ | ⟨e1 | e1, ad, l, q⟩
  · exact wpAny_Name (wpAny_loadName_local S.vars.fk e1 nn q fin) hdbg
  · exact wpAny_Name (wpAny_loadName_cell S.vars.fk e1 l q fin) hdbg
  · exact wpAny_Name (wpAny_loadName_free S.vars.fk e1 l q fin hcd) hdbg

/-- while: the turns counted ahead -/
theorem x_while {test : Expr} {body : List Stmt} {pos : Pos} (n : Nat) (ρs σs : Nat → DEnv) (h0 : ∀ x d, (ρs 0).lookup x = some d → ρ.lookup x = some d) (hσ : σs 0 = σ)
    (go : ∀ i, i < n → ET c k env (ρs i ++ σs i) test true) (stop : ET c k env (ρs n ++ σs n) test false)
    (turn : ∀ i, i < n → SX c k A env β₀ h₀ s₀ (ρs i) (σs i) η body (fun f s' => match f with
      | .next | .cont => St c env β₀ h₀ (ρs (i + 1)) (σs (i + 1)) η s₀ s'
      | _ => False))
    (hr : SX c k A env β₀ h₀ s₀ (ρs n) (σs n) η rest K) : SX c k A env β₀ h₀ s₀ ρ σ η (.While test body [] pos :: rest) K := by
  rintro ha hb _ ⟨h, t, β, own, rfl, S⟩
  refine wpAny_execs_cons (wpAny_While ?_)
  have key : ∀ m i, i + m = n → ∀ s', St c env β₀ h₀ (ρs i) (σs i) η s₀ s' →
      codeAny (model c.prog c.w) A (.whileLoop test body [] env) (fun r s' => match r with | .ok f => Kseq c A env rest K f s' | .error e => cameBackBy (model c.prog c.w) A env (fun _ _ => False) e s') s' := by
    intro m
    induction m with
    | zero =>
      rintro i him _ ⟨h2, t2, β2, own2, rfl, S2⟩
      have : i = n := by omega
      subst this
      refine while_turn (stop A _ (plus β2 h2 own2) _ ha (hb.kp S2.nx.kp) S2.sub_plus S2.vars_plus fun h3 β3 t3 n3 => ?_)
      simp only [Bool.false_eq_true, if_false]
      exact wpAny_execs_nil (hr ha hb _ ⟨h3, t3, β2, own2, rfl, S2.later (Nx.keep S2.nx.sub n3.kp)⟩)
    | succ m ih =>
      rintro i him _ ⟨h2, t2, β2, own2, rfl, S2⟩
      refine while_turn (go i (by omega) A _ (plus β2 h2 own2) _ ha (hb.kp S2.nx.kp) S2.sub_plus S2.vars_plus fun h3 β3 t3 n3 => ?_)
      simp only [if_true]
      refine wpAny_mono (turn i (by omega) ha hb _ ⟨h3, t3, β2, own2, rfl, S2.later (Nx.keep S2.nx.sub n3.kp)⟩) (fun f s5 q => ?_) fun _ _ q => q
      cases f with
      | next => exact ih (i + 1) (by omega) s5 q
      | cont => exact ih (i + 1) (by omega) s5 q
      | brk => exact q.elim
      | ret v => exact q.elim
  exact codeAny_mono (key n 0 (by omega) _ ⟨h, t, β, own, rfl, by rw [hσ]; exact S.forget h0⟩) fun r s' q => by
    cases r with
    | ok f => cases f <;> exact q
    | error e => exact q
end
end Mine

open PySem PySem.W PySem.W.X PyProof.Rows PySem.Calls PySem.Spec
set_option Elab.async false
namespace Mine
set_option maxRecDepth 100000
set_option maxHeartbeats 1000000
set_option linter.unusedVariables false

theorem compTurn_last (elt target iter : Expr) (ifs : List Expr) (gens : List Comprehension) (scope : Scope) (pos : Pos) (depth : Nat) (it acc : Value) (env : Env) (hg : gens[depth]? = some ⟨target, iter, ifs, 0⟩) (hl : gens[depth + 1]? = none) :
    compTurn (.ListComp elt gens scope pos) depth it acc env = (do
      standAt iter.pos
      match ← pyNext it with
      | none => pure (.done .next)
      | some v =>
        letOwnedTupleGo target it v
        assign target env v
        let mut ok := true
        for c in ifs do
          if ok then ok ← isTrue c env (eval c env)
        if ok then
          (do let _ ← call (.builtin "list.append") [acc, ← eval elt env])
        again (.compLoop (.ListComp elt gens scope pos) depth it acc env)) := by
  unfold compTurn
  simp only [hg, hl]
  rfl
theorem compTurn_more (elt target iter : Expr) (ifs : List Expr) (gens : List Comprehension) (scope : Scope) (pos : Pos) (depth : Nat) (it acc : Value) (env : Env) (target' iter' : Expr) (ifs' : List Expr) (hg : gens[depth]? = some ⟨target, iter, ifs, 0⟩) (hl : gens[depth + 1]? = some ⟨target', iter', ifs', 0⟩) :
    compTurn (.ListComp elt gens scope pos) depth it acc env = (do
      standAt iter.pos
      match ← pyNext it with
      | none => pure (.done .next)
      | some v =>
        letOwnedTupleGo target it v
        assign target env v
        let mut ok := true
        for c in ifs do
          if ok then ok ← isTrue c env (eval c env)
        if ok then
          let x ← eval iter' env
          standAt iter'.pos
          let x ← foldedSetIterable iter' env x
          let _ ← runOwn (.compStart (.ListComp elt gens scope pos) (depth + 1) (← holding [x] (pyIter x)) acc env) env
        again (.compLoop (.ListComp elt gens scope pos) depth it acc env)) := by
  unfold compTurn
  simp only [hg, hl]
  rfl

section
variable {prog : Program} {w : World} {A : Around} {s : Shared} {env : Env} {R : Result → Shared → Prop}
abbrev tests (ifs : List Expr) (env : Env) : Sem Bool := forIn ifs true fun c r => if r = true then do let ok ← isTrue c env (eval c env); pure (ForInStep.yield ok) else pure (ForInStep.yield r)

theorem comp_turn_last {elt target iter : Expr} {ifs : List Expr} {gens : List Comprehension} {scope : Scope} {pos : Pos} {depth : Nat} {it acc : Value} (hg : gens[depth]? = some ⟨target, iter, ifs, 0⟩) (hl : gens[depth + 1]? = none)
    (h : wpAny (model prog w) A (pyNext it) (fun r s₁ => match r with
      | none => R (.ok .next) s₁
      | some v => wpAny (model prog w) A (letOwnedTupleGo target it v) (fun _ s₁' => wpAny (model prog w) A (assign target env v) (fun _ s₂ =>
          wpAny (model prog w) A (tests ifs env) (fun ok s₃ =>
            if ok = true then wpAny (model prog w) A (eval elt env) (fun x s₄ => wpAny (model prog w) A (call (.builtin "list.append") [acc, x]) (fun _ s₅ => codeAny (model prog w) A (.compLoop (.ListComp elt gens scope pos) depth it acc env) R s₅) (fun _ _ => False) s₄) (fun _ _ => False) s₃
            else codeAny (model prog w) A (.compLoop (.ListComp elt gens scope pos) depth it acc env) R s₃) (fun _ _ => False) s₂) (fun _ _ => False) s₁') (fun _ _ => False) s₁) (fun _ _ => False) s) :
    codeAny (model prog w) A (.compLoop (.ListComp elt gens scope pos) depth it acc env) R s := by
  refine codeAny_loop' rfl (fun _ s' => s' = s) (fun n s' hI => ?_) 0 rfl
  subst hI
  show wpAny _ A ((compTurn (.ListComp elt gens scope pos) depth it acc env).onRaise (fun x => do noteFrame x env; theTreesLotGoes x)) _ _ s'
  refine wpAny_noted ?_
  rw [compTurn_last _ _ _ _ _ _ _ _ _ _ _ hg hl]
  refine wpAny_noRaise ?_
  refine wpAny_bind (wpAny_standAt (wpAny_bind (wpAny_mono h (fun r s₁ h₁ => ?_) fun _ _ h' => h')))
  cases r with
  | none => exact wpAny_pure h₁
  | some v =>
    refine wpAny_bind (wpAny_mono h₁ (fun _ s₁' h₁' => ?_) fun _ _ h' => h')
    refine wpAny_bind (wpAny_mono h₁' (fun _ s₂ h₂ => wpAny_bind (wpAny_mono h₂ (fun ok s₃ h₃ => ?_) fun _ _ h' => h')) fun _ _ h' => h')
    cases ok with
    | false => exact wpAny_pure (.inr ⟨rfl, h₃⟩)
    | true => exact wpAny_bind (wpAny_bind (wpAny_mono h₃ (fun x s₄ h₄ => wpAny_bind (wpAny_mono h₄ (fun _ s₅ h₅ => wpAny_pure (wpAny_pure (.inr ⟨rfl, h₅⟩))) fun _ _ h' => h')) fun _ _ h' => h'))

theorem comp_turn_more {elt target iter target' iter' : Expr} {ifs ifs' : List Expr} {gens : List Comprehension} {scope : Scope} {pos : Pos} {depth : Nat} {it acc : Value} (hg : gens[depth]? = some ⟨target, iter, ifs, 0⟩) (hl : gens[depth + 1]? = some ⟨target', iter', ifs', 0⟩)
    (hs : ∀ x, foldedSetIterable iter' env x = pure x)
    (h : wpAny (model prog w) A (pyNext it) (fun r s₁ => match r with
      | none => R (.ok .next) s₁
      | some v => wpAny (model prog w) A (letOwnedTupleGo target it v) (fun _ s₁' => wpAny (model prog w) A (assign target env v) (fun _ s₂ =>
          wpAny (model prog w) A (tests ifs env) (fun ok s₃ =>
            if ok = true then wpAny (model prog w) A (eval iter' env) (fun x s₄ => wpAny (model prog w) A (pyIter x) (fun it' s₅ => codeAny (model prog w) A (.compStart (.ListComp elt gens scope pos) (depth + 1) it' acc env)
              (fun r s₆ => match r with | .ok f => codeAny (model prog w) A (.compLoop (.ListComp elt gens scope pos) depth it acc env) R s₆ | .error _ => False) s₅) (fun _ _ => False) s₄) (fun _ _ => False) s₃
            else codeAny (model prog w) A (.compLoop (.ListComp elt gens scope pos) depth it acc env) R s₃) (fun _ _ => False) s₂) (fun _ _ => False) s₁') (fun _ _ => False) s₁) (fun _ _ => False) s) :
    codeAny (model prog w) A (.compLoop (.ListComp elt gens scope pos) depth it acc env) R s := by
  refine codeAny_loop' rfl (fun _ s' => s' = s) (fun n s' hI => ?_) 0 rfl
  subst hI
  show wpAny _ A ((compTurn (.ListComp elt gens scope pos) depth it acc env).onRaise (fun x => do noteFrame x env; theTreesLotGoes x)) _ _ s'
  refine wpAny_noted ?_
  rw [compTurn_more _ _ _ _ _ _ _ _ _ _ _ _ _ _ hg hl]
  refine wpAny_noRaise ?_
  refine wpAny_bind (wpAny_standAt (wpAny_bind (wpAny_mono h (fun r s₁ h₁ => ?_) fun _ _ h' => h')))
  cases r with
  | none => exact wpAny_pure h₁
  | some v =>
    refine wpAny_bind (wpAny_mono h₁ (fun _ s₁' h₁' => ?_) fun _ _ h' => h')
    refine wpAny_bind (wpAny_mono h₁' (fun _ s₂ h₂ => wpAny_bind (wpAny_mono h₂ (fun ok s₃ h₃ => ?_) fun _ _ h' => h')) fun _ _ h' => h')
    cases ok with
    | false => exact wpAny_pure (.inr ⟨rfl, h₃⟩)
    | true =>
      refine wpAny_bind (wpAny_mono h₃ (fun x s₄ h₄ => ?_) fun _ _ h' => h')
      refine wpAny_bind (wpAny_standAt (wpAny_bind (wpAny_of_eq (hs x) (wpAny_bind (wpAny_holding (wpAny_mono h₄ (fun it' s₅ h₅ => ?_) fun _ _ h' => h'))))))
      refine wpAny_bind (wpAny_runOwn (codeAny_mono h₅ fun r s₆ h₆ => ?_))
      cases r with
      | ok f => exact wpAny_pure (.inr ⟨rfl, h₆⟩)
      | error e => exact h₆.elim

theorem comp_start {elt target iter : Expr} {ifs : List Expr} {gens : List Comprehension} {scope : Scope} {pos : Pos} {depth : Nat} {it acc : Value} (hg : gens[depth]? = some ⟨target, iter, ifs, 0⟩)
    (h0 : codeAny (model prog w) A (.compLoop (.ListComp elt gens scope pos) depth it acc env) R s)
    (h : wpAny (model prog w) A (pyIter it) (fun it' s' => codeAny (model prog w) A (.compLoop (.ListComp elt gens scope pos) depth it' acc env) R s') (fun _ _ => False) s) :
    codeAny (model prog w) A (.compStart (.ListComp elt gens scope pos) depth it acc env) R s := by
  refine codeAny_of_tree ?_
  show wpAny _ _ ((compStart (.ListComp elt gens scope pos) depth it acc env).onRaise (fun x => do noteFrame x env; standAt theWindowsPlace)) _ _ s
  refine wpAny_notedAt ?_
  refine wpAny_noRaise ?_
  unfold compStart
  have e : clausesOf (.ListComp elt gens scope pos) = gens := rfl
  rw [e, hg]
  show wpAny _ _ (ask >>= _) _ _ s
  refine wpAny_bind (wpAny_askSetting (wpAny_ite ?_))
  split
  · first
      | exact wpAny_bind (wpAny_pure (wpAny_pure (And.intro rfl h0)))
      | exact wpAny_pure (And.intro rfl h0)
  · first
      | exact wpAny_bind (wpAny_rule (wpAny_bind (wpAny_standAt (wpAny_bind (wpAny_mono h (fun it' s' h' => wpAny_pure (And.intro rfl h')) fun _ _ x => x)))))
      | (refine wpAny_bind (wpAny_rule ?_); show wpAny _ _ (standAt iter.pos >>= _) _ _ s; exact wpAny_bind (wpAny_standAt (wpAny_bind (wpAny_mono h (fun it' s' h' => wpAny_pure (And.intro rfl h')) fun _ _ x => x))))
end
end Mine

open PySem PySem.W PySem.W.X PyProof.Rows PySem.Calls PySem.Spec
set_option Elab.async false
namespace Mine
set_option maxRecDepth 100000
set_option maxHeartbeats 1000000
set_option linter.unusedVariables false

theorem StB.perm {c : Cx} {env : Env} {β₀ : View} {h₀ : Heap} {ρ σ : DEnv} {η η' : Hid} {h : Heap} {β : View} {own : List Addr} (S : StB c env β₀ h₀ ρ σ η h β own) (p : η.Perm η') : StB c env β₀ h₀ ρ σ η' h β own := by
  have q : (priv env (own ++ η.map (·.1))).Perm (priv env (own ++ η'.map (·.1))) := by
    unfold priv
    exact (((p.map _).append_left _).append_left _).cons _
  exact ⟨S.nx, S.vars, q.nodup_iff.mp S.pd, fun a ha => S.pb a (q.mem_iff.mpr ha), fun a ha => S.p0 a (q.mem_iff.mpr ha), S.fr, S.cl, S.ol, S.ow, fun x hx => S.hi x (p.mem_iff.mpr hx), S.fc⟩

section
variable {c : Cx} {k : Nat} {env : Env} {ρ : DEnv}

/-- the tests of a clause come out so -/
def TS (c : Cx) (k : Nat) (env : Env) (ρ : DEnv) (ifs : List Expr) (b : Bool) : Prop :=
  ∀ (A : Around) (s : Shared) (β : View) (Q : Bool → Shared → Prop), AOk k A → Base c s.heap → Sub β s.heap → Vars c env ρ β s.heap →
    (∀ h' β' t, Nx β s.heap β' h' → Q b { s with heap := h', toks := t }) → wpAny (model c.prog c.w) A (tests ifs env) Q (fun _ _ => False) s
theorem ts_nil : TS c k env ρ [] true := fun A s β Q ha hb hs V hQ => wpAny_tests_nil (hQ s.heap β s.toks (Nx.refl hs))
theorem ts_one {e : Expr} {b : Bool} (h : ET c k env ρ e b) : TS c k env ρ [e] b := fun A s β Q ha hb hs V hQ => wpAny_tests_one (h A s β Q ha hb hs V hQ)

/-- a target takes a datum and hides none of the names -/
def AK (c : Cx) (k : Nat) (env : Env) (target : Expr) (d : Dat) (ρ ρ' : DEnv) : Prop := AS c k env target d ρ ρ' [] ∧ ∀ y e, ρ.lookup y = some e → ρ'.lookup y = some e
theorem ak_name {x : Str} {pos : Pos} {d : Dat} (hρ : ρ.lookup x = none) (hx : KindOk env x) : AK c k env (.Name x pos) d ρ ((x, d) :: ρ) := by
  refine ⟨as_name rfl hx, fun y e h => ?_⟩
  rw [List.lookup_cons]
  have : (y == x) = false := by simpa using lookup_none_ne hρ h
  rw [this]; exact h

/-- what the clauses give out -/
def CG (c : Cx) (k : Nat) (env : Env) (elt : Expr) : List Comprehension → DEnv → List Dat → Prop
  | [], ρ, out => ∃ d, out = [d] ∧ EV c k env ρ elt d
  | ⟨target, iter, ifs, a⟩ :: gs, ρ, out => ∃ (ds : List Dat) (G : Dat → List Dat), EI c k env ρ target iter ds ∧ out = ds.flatMap G ∧
      ∀ d ∈ ds, ∃ ρ' b, AK c k env target d ρ ρ' ∧ TS c k env ρ' ifs b ∧ (b = false → G d = []) ∧ (b = true → CG c k env elt gs ρ' (G d))
/-- one clause's turns -/
def CB (c : Cx) (k : Nat) (env : Env) (elt target : Expr) (ifs : List Expr) (gs : List Comprehension) (ρ : DEnv) (ds : List Dat) (G : Dat → List Dat) : Prop :=
  ∀ d ∈ ds, ∃ ρ' b, AK c k env target d ρ ρ' ∧ TS c k env ρ' ifs b ∧ (b = false → G d = []) ∧ (b = true → CG c k env elt gs ρ' (G d))

def accP (c : Cx) (β : View) (ds : List Dat) : Obj → Prop := fun o => ∃ vs n, o = lstO vs n ∧ Rds c β vs ds
theorem accP.mono {β β' : View} {ds : List Dat} {o : Obj} (hx : Ext β β') (h : accP c β ds o) : accP c β' ds o := let ⟨vs, n, e, r⟩ := h; ⟨vs, n, e, r.mono hx⟩

theorem StB.hidMono {β₀ : View} {h₀ : Heap} {σ : DEnv} {η : Hid} {h : Heap} {β β₁ : View} {own : List Addr} {D : Addr} {ds : List Dat} (S : StB c env β₀ h₀ ρ σ ((D, accP c β₁ ds) :: η) h β own) (hx : Ext β₁ β) : StB c env β₀ h₀ ρ σ ((D, accP c β ds) :: η) h β own :=
  ⟨S.nx, S.vars, S.pd, S.pb, S.p0, S.fr, S.cl, S.ol, S.ow, fun p hp => by
    rcases List.mem_cons.mp hp with rfl | hp
    · obtain ⟨o, e, q⟩ := S.hi _ List.mem_cons_self; exact ⟨o, e, q.mono hx⟩
    · exact S.hi p (List.mem_cons_of_mem _ hp), S.fc⟩

variable {A : Around} {β₀ : View} {h₀ : Heap} {s₀ : Shared}

theorem comp_loop {elt : Expr} {gens : List Comprehension} {scope : Scope} {pos : Pos} {D : Addr} (ha : AOk k A) (hb : Base c h₀) (hgs : ∀ g ∈ gens, g.is_async = 0 ∧ ∀ x, foldedSetIterable g.iter env x = pure x) : ∀ (gs : List Comprehension) (depth : Nat) (target iter : Expr) (ifs : List Expr), gens[depth]? = some ⟨target, iter, ifs, 0⟩ → gens.drop (depth + 1) = gs →
    ∀ (ρ : DEnv) (ds : List Dat) (G : Dat → List Dat), CB c k env elt target ifs gs ρ ds G →
    ∀ (β1 : View) (I : Addr) (It : Nat → Hid) (adrs : List Addr) (η : Hid), Iter c k target β1 I It ds adrs → (∀ i, (It i).map (·.1) = adrs) →
    ∀ (m i : Nat), i + m = ds.length → ∀ (out0 : List Dat) (h2 : Heap) (t2 : Nat) (β2 : View) (R : Result → Shared → Prop), Ext β1 β2 →
    StB c env β₀ h₀ ρ [] ((D, accP c β2 out0) :: (It i ++ η)) h2 β2 [] → (out0 ++ (ds.drop i).flatMap G).length ≤ 10000 →
    (∀ h' t' β', Ext β2 β' → StB c env β₀ h₀ ρ [] ((D, accP c β' (out0 ++ (ds.drop i).flatMap G)) :: η) h' β' [] → R (.ok .next) { s₀ with heap := h', toks := t' }) →
    codeAny (model c.prog c.w) A (.compLoop (.ListComp elt gens scope pos) depth (.ref I) (.ref D) env) R { s₀ with heap := h2, toks := t2 } := by
  intro gs
  induction gs with
  | nil =>
    intro depth target iter ifs hg hrest ρ ds G hcb β1 I It adrs η hit hadr m
    have hl : gens[depth + 1]? = none := by
      have := congrArg List.length hrest
      rw [List.length_drop] at this
      exact List.getElem?_eq_none (by simp at this; omega)
    induction m with
    | zero =>
      intro i him out0 h2 t2 β2 R hx2 S2 hlen hR
      have him : i = ds.length := by omega
      subst him
      have S2' : StB c env β₀ h₀ ρ [] (It ds.length ++ ((D, accP c β2 out0) :: η)) h2 β2 [] := S2.perm List.perm_middle.symm
      refine comp_turn_last hg hl (wpAny_mono (hit.done A _ β2 (fun s1 => R (.ok .next) s1) ha (hb.kp S2.nx.kp) hx2 S2.nx.sub (fun p hp => S2'.hi p (List.mem_append_left _ hp)) (fun h3 t3 hk3 => ?_)) (fun r s1 q => ?_) fun _ _ q => q)
      · have S3 := S2'.dropHid (h' := h3) fun b o hm e => hk3 b o (by rw [hadr] at hm; exact hm) e
        rw [List.drop_length] at hR
        exact hR h3 t3 β2 (fun _ _ e => e) (by simpa using S3)
      · obtain ⟨rfl, q⟩ := q; exact q
    | succ m ih =>
      intro i him out0 h2 t2 β2 R hx2 S2 hlen hR
      have hlt : i < ds.length := by omega
      have hdrop : ds.drop i = ds[i] :: ds.drop (i + 1) := List.drop_eq_getElem_cons hlt
      obtain ⟨ρ', b, hak, hts, hbf, hbt⟩ := hcb ds[i] (List.getElem_mem hlt)
      have hDa : D ∉ adrs := fun hm => by
        have := S2.pd
        unfold priv at this
        rw [List.nodup_cons, List.nodup_append] at this
        have h3 := this.2.2.1
        simp only [List.nil_append, List.map_cons, List.map_append, List.nodup_cons] at h3
        exact h3.1 (List.mem_append_left _ (by rw [hadr]; exact hm))
      have hadr' : ∀ a ∈ adrs, β2 a = none := fun a hm => S2.pb a (hid_priv (by rw [List.map_cons, List.map_append, hadr]; exact List.mem_cons_of_mem _ (List.mem_append_left _ hm)))
      refine comp_turn_last hg hl (wpAny_mono (hit.item A _ i ds[i] β2 (fun v s1 => wpAny (model c.prog c.w) A (assign target env v) (fun _ s₂ =>
          wpAny (model c.prog c.w) A (tests ifs env) (fun ok s₃ =>
            if ok = true then wpAny (model c.prog c.w) A (eval elt env) (fun x s₄ => wpAny (model c.prog c.w) A (call (.builtin "list.append") [.ref D, x]) (fun _ s₅ => codeAny (model c.prog c.w) A (.compLoop (.ListComp elt gens scope pos) depth (.ref I) (.ref D) env) R s₅) (fun _ _ => False) s₄) (fun _ _ => False) s₃
            else codeAny (model c.prog c.w) A (.compLoop (.ListComp elt gens scope pos) depth (.ref I) (.ref D) env) R s₃) (fun _ _ => False) s₂) (fun _ _ => False) s1) ha (hb.kp S2.nx.kp) hx2 S2.nx.sub hadr' (fun p hp => S2.hi p (List.mem_cons_of_mem _ (List.mem_append_left _ hp))) (List.getElem?_eq_getElem hlt) (fun v h3 β3 t3 hk3 hx3 hs3 hw3 hg3 r3 => ?_)) (fun r s1 q => ?_) fun _ _ q => q)
      · have S3 : StB c env β₀ h₀ ρ [] ((D, accP c β2 out0) :: (It (i + 1) ++ η)) h3 β3 [] := by
          refine StB.stepHid (hid := (D, accP c β2 out0) :: It i) (hid' := (D, accP c β2 out0) :: It (i + 1)) S2 (by simp [hadr]) (fun b o hm e => hk3 b o (fun q => hm (List.mem_cons_of_mem _ (by rw [hadr]; exact q))) e) hx3 hs3 hw3 (fun p hp => ?_)
          rcases List.mem_cons.mp hp with rfl | hp
          · obtain ⟨o, e, q⟩ := S2.hi _ List.mem_cons_self
            exact ⟨o, hk3 _ o hDa e, q⟩
          · exact hg3 p hp
        have n3 := S3.nx
        refine hak.1 A s₀ β3 h₀ _ h3 t3 β3 [] v _ ha hb S3.base r3 fun s4 S4 => ?_
        obtain ⟨h4, t4, β4, own4, rfl, S4⟩ := S4
        have : own4 = [] := List.eq_nil_of_length_eq_zero S4.ol.symm
        subst this
        refine hts A _ β4 _ ha (hb.kp S4.nx.kp) S4.nx.sub S4.vars fun h5 β5 t5 n5 => ?_
        have S5 := S4.later n5
        cases b with
        | false =>
          simp only [Bool.false_eq_true, if_false]
          have S5' : StB c env β₀ h₀ ρ [] ((D, accP c β5 out0) :: (It (i + 1) ++ η)) h5 β5 [] := ((S5.forget hak.2).rebase n3).hidMono fun a o e => S5.nx.ext _ _ (hx3 _ _ e)
          have e0 : G ds[i] = [] := hbf rfl
          refine ih (i + 1) (by omega) out0 h5 t5 β5 R (fun a o e => S5.nx.ext _ _ (hx3 _ _ (hx2 _ _ e))) S5' (by rw [hdrop, List.flatMap_cons, e0, List.nil_append] at hlen; exact hlen) fun h' t' β' hx' S' => hR h' t' β' (fun a o e => hx' _ _ (S5.nx.ext _ _ (hx3 _ _ e))) ?_
          rw [hdrop, List.flatMap_cons, e0, List.nil_append]; exact S'
        | true =>
          simp only [if_true]
          obtain ⟨d, e0, hev⟩ := hbt rfl
          refine hev A _ β5 _ ha (hb.kp S5.nx.kp) S5.nx.sub S5.vars fun x h6 β6 t6 n6 r6 => ?_
          have S6 := S5.later n6
          have hx6 : Ext β2 β6 := fun a o e => S6.nx.ext _ _ (hx3 _ _ e)
          obtain ⟨oD, eD, vs, n, rfl, rs⟩ := S6.hi _ List.mem_cons_self
          have hsz : out0.length + 1 ≤ 10000 := by
            rw [hdrop, List.flatMap_cons, e0] at hlen
            simp only [List.length_append, List.length_singleton] at hlen
            omega
          refine wpAny_list_append_plain (items := vs.toArray) ⟨n, eD⟩ (fun h7 hl7 hs7 => ?_) (by rw [List.size_toArray, rs.1, sizeLine_eq]; omega)
          obtain ⟨n7, e7⟩ := hl7
          have hDb : β6 D = none := S6.pb D (hid_priv List.mem_cons_self)
          have S7 : StB c env β3 h₀ ρ' [] ((D, accP c β6 (out0 ++ [d])) :: (It (i + 1) ++ η)) h7 β6 [] := by
            refine StB.stepHid (hid := (D, accP c β2 out0) :: It (i + 1)) (hid' := (D, accP c β6 (out0 ++ [d])) :: It (i + 1)) S6 (by simp) (fun b o hm e => (hs7.2 b fun q => hm (by rw [q]; exact List.mem_cons_self)).trans e) (fun _ _ e => e) (fun a o e => (hs7.2 a fun q => ?_).trans (S6.nx.sub a o e)) (fun a o e e0 => by rw [e0] at e; cases e) (fun p hp => ?_)
            · rw [q, hDb] at e; cases e
            · rcases List.mem_cons.mp hp with rfl | hp
              · exact ⟨_, e7, vs ++ [x], n7, by simp, (rs.mono hx6).snoc r6⟩
              · obtain ⟨o, e, q⟩ := S6.hi p (List.mem_cons_of_mem _ (List.mem_append_left _ hp))
                refine ⟨o, (hs7.2 _ fun z => hDa ?_).trans e, q⟩
                rw [← hadr (i + 1), ← z]; exact List.mem_map_of_mem hp
          have S7' : StB c env β₀ h₀ ρ [] ((D, accP c β6 (out0 ++ [d])) :: (It (i + 1) ++ η)) h7 β6 [] := (S7.forget hak.2).rebase n3
          refine ih (i + 1) (by omega) (out0 ++ [d]) h7 t6 β6 R (fun a o e => hx6 _ _ (hx2 _ _ e)) S7' (by rw [hdrop, List.flatMap_cons, e0, ← List.append_assoc] at hlen; exact hlen) fun h' t' β' hx' S' => hR h' t' β' (fun a o e => hx' _ _ (hx6 _ _ e)) ?_
          rw [hdrop, List.flatMap_cons, e0, ← List.append_assoc]; exact S'
      · obtain ⟨v, rfl, q⟩ := q; exact q
  | cons g gs ihg =>
    obtain ⟨target', iter', ifs', a'⟩ := g
    intro depth target iter ifs hg hrest ρ ds G hcb β1 I It adrs η hit hadr m
    have hl : gens[depth + 1]? = some ⟨target', iter', ifs', a'⟩ := by
      have : (gens.drop (depth + 1))[0]? = some ⟨target', iter', ifs', a'⟩ := by rw [hrest]; rfl
      rwa [List.getElem?_drop] at this
    have hrest' : gens.drop (depth + 1 + 1) = gs := by
      have : (gens.drop (depth + 1)).drop 1 = gs := by rw [hrest]; rfl
      rwa [List.drop_drop] at this
    obtain ⟨ha0, hfold⟩ := hgs _ (List.mem_of_getElem? hl)
    dsimp only at ha0 hfold
    subst ha0
    induction m with
    | zero =>
      intro i him out0 h2 t2 β2 R hx2 S2 hlen hR
      have him : i = ds.length := by omega
      subst him
      have S2' : StB c env β₀ h₀ ρ [] (It ds.length ++ ((D, accP c β2 out0) :: η)) h2 β2 [] := S2.perm List.perm_middle.symm
      refine comp_turn_more hg hl hfold (wpAny_mono (hit.done A _ β2 (fun s1 => R (.ok .next) s1) ha (hb.kp S2.nx.kp) hx2 S2.nx.sub (fun p hp => S2'.hi p (List.mem_append_left _ hp)) (fun h3 t3 hk3 => ?_)) (fun r s1 q => ?_) fun _ _ q => q)
      · have S3 := S2'.dropHid (h' := h3) fun b o hm e => hk3 b o (by rw [hadr] at hm; exact hm) e
        rw [List.drop_length] at hR
        exact hR h3 t3 β2 (fun _ _ e => e) (by simpa using S3)
      · obtain ⟨rfl, q⟩ := q; exact q
    | succ m ih =>
      intro i him out0 h2 t2 β2 R hx2 S2 hlen hR
      have hlt : i < ds.length := by omega
      have hdrop : ds.drop i = ds[i] :: ds.drop (i + 1) := List.drop_eq_getElem_cons hlt
      obtain ⟨ρ', b, hak, hts, hbf, hbt⟩ := hcb ds[i] (List.getElem_mem hlt)
      have hDa : D ∉ adrs := fun hm => by
        have := S2.pd
        unfold priv at this
        rw [List.nodup_cons, List.nodup_append] at this
        have h3 := this.2.2.1
        simp only [List.nil_append, List.map_cons, List.map_append, List.nodup_cons] at h3
        exact h3.1 (List.mem_append_left _ (by rw [hadr]; exact hm))
      have hadr' : ∀ a ∈ adrs, β2 a = none := fun a hm => S2.pb a (hid_priv (by rw [List.map_cons, List.map_append, hadr]; exact List.mem_cons_of_mem _ (List.mem_append_left _ hm)))
      refine comp_turn_more hg hl hfold (wpAny_mono (hit.item A _ i ds[i] β2 (fun v s1 => wpAny (model c.prog c.w) A (assign target env v) (fun _ s₂ =>
          wpAny (model c.prog c.w) A (tests ifs env) (fun ok s₃ =>
            if ok = true then wpAny (model c.prog c.w) A (eval iter' env) (fun x s₄ => wpAny (model c.prog c.w) A (pyIter x) (fun it' s₅ => codeAny (model c.prog c.w) A (.compStart (.ListComp elt gens scope pos) (depth + 1) it' (.ref D) env)
              (fun r s₆ => match r with | .ok f => codeAny (model c.prog c.w) A (.compLoop (.ListComp elt gens scope pos) depth (.ref I) (.ref D) env) R s₆ | .error _ => False) s₅) (fun _ _ => False) s₄) (fun _ _ => False) s₃
            else codeAny (model c.prog c.w) A (.compLoop (.ListComp elt gens scope pos) depth (.ref I) (.ref D) env) R s₃) (fun _ _ => False) s₂) (fun _ _ => False) s1) ha (hb.kp S2.nx.kp) hx2 S2.nx.sub hadr' (fun p hp => S2.hi p (List.mem_cons_of_mem _ (List.mem_append_left _ hp))) (List.getElem?_eq_getElem hlt) (fun v h3 β3 t3 hk3 hx3 hs3 hw3 hg3 r3 => ?_)) (fun r s1 q => ?_) fun _ _ q => q)
      · have S3 : StB c env β₀ h₀ ρ [] ((D, accP c β2 out0) :: (It (i + 1) ++ η)) h3 β3 [] := by
          refine StB.stepHid (hid := (D, accP c β2 out0) :: It i) (hid' := (D, accP c β2 out0) :: It (i + 1)) S2 (by simp [hadr]) (fun b o hm e => hk3 b o (fun q => hm (List.mem_cons_of_mem _ (by rw [hadr]; exact q))) e) hx3 hs3 hw3 (fun p hp => ?_)
          rcases List.mem_cons.mp hp with rfl | hp
          · obtain ⟨o, e, q⟩ := S2.hi _ List.mem_cons_self
            exact ⟨o, hk3 _ o hDa e, q⟩
          · exact hg3 p hp
        have n3 := S3.nx
        refine hak.1 A s₀ β3 h₀ _ h3 t3 β3 [] v _ ha hb S3.base r3 fun s4 S4 => ?_
        obtain ⟨h4, t4, β4, own4, rfl, S4⟩ := S4
        have : own4 = [] := List.eq_nil_of_length_eq_zero S4.ol.symm
        subst this
        refine hts A _ β4 _ ha (hb.kp S4.nx.kp) S4.nx.sub S4.vars fun h5 β5 t5 n5 => ?_
        have S5 := S4.later n5
        cases b with
        | false =>
          simp only [Bool.false_eq_true, if_false]
          have S5' : StB c env β₀ h₀ ρ [] ((D, accP c β5 out0) :: (It (i + 1) ++ η)) h5 β5 [] := ((S5.forget hak.2).rebase n3).hidMono fun a o e => S5.nx.ext _ _ (hx3 _ _ e)
          have e0 : G ds[i] = [] := hbf rfl
          refine ih (i + 1) (by omega) out0 h5 t5 β5 R (fun a o e => S5.nx.ext _ _ (hx3 _ _ (hx2 _ _ e))) S5' (by rw [hdrop, List.flatMap_cons, e0, List.nil_append] at hlen; exact hlen) fun h' t' β' hx' S' => hR h' t' β' (fun a o e => hx' _ _ (S5.nx.ext _ _ (hx3 _ _ e))) ?_
          rw [hdrop, List.flatMap_cons, e0, List.nil_append]; exact S'
        | true =>
          simp only [if_true]
          obtain ⟨ds', G', hei, e0, hcb'⟩ := hbt rfl
          refine hei A _ β5 _ ha (hb.kp S5.nx.kp) S5.nx.sub S5.vars fun I' It' adrs' h6 β6 t6 n6 hf' hn' hadr6 hg6 hit' => ?_
          have S6 : StB c env β3 h₀ ρ' [] (It' 0 ++ ((D, accP c β2 out0) :: (It (i + 1) ++ η))) h6 β6 [] := S5.hide n6 (fun a hm => hf' a (by rw [hadr6] at hm; exact hm)) (by rw [hadr6]; exact hn') hg6
          have hx6 : Ext β2 β6 := fun a o e => S6.nx.ext _ _ (hx3 _ _ e)
          have S6' : StB c env β3 h₀ ρ' [] ((D, accP c β6 out0) :: (It' 0 ++ (It (i + 1) ++ η))) h6 β6 [] := (S6.perm List.perm_middle).hidMono hx6
          have S6'' := S6'.rebase n3
          have hlen6 : (out0 ++ (ds'.drop 0).flatMap G').length ≤ 10000 := by
            rw [hdrop, List.flatMap_cons, e0, ← List.append_assoc, List.length_append] at hlen
            rw [List.drop_zero]; omega
          have loop : codeAny (model c.prog c.w) A (.compLoop (.ListComp elt gens scope pos) (depth + 1) (.ref I') (.ref D) env)
              (fun r s₆ => match r with | .ok f => codeAny (model c.prog c.w) A (.compLoop (.ListComp elt gens scope pos) depth (.ref I) (.ref D) env) R s₆ | .error _ => False) { s₀ with heap := h6, toks := t6 } := by
            refine ihg (depth + 1) target' iter' ifs' hl hrest' ρ' ds' G' hcb' β6 I' It' adrs' (It (i + 1) ++ η) hit' hadr6 ds'.length 0 (by omega) out0 h6 t6 β6 _ (fun _ _ e => e) S6'' hlen6 fun h7 t7 β7 hx7 S7 => ?_
            rw [List.drop_zero, ← e0] at S7
            refine ih (i + 1) (by omega) (out0 ++ G ds[i]) h7 t7 β7 R (fun a o e => hx7 _ _ (hx6 _ _ (hx2 _ _ e))) (S7.forget hak.2) (by rw [hdrop, List.flatMap_cons, ← List.append_assoc] at hlen; exact hlen) fun h' t' β' hx' S' => hR h' t' β' (fun a o e => hx' _ _ (hx7 _ _ (hx6 _ _ e))) ?_
            rw [hdrop, List.flatMap_cons, ← List.append_assoc]; exact S'
          exact comp_start hl loop (hit'.self A _ 0 _ _ hg6 loop)
      · obtain ⟨v, rfl, q⟩ := q; exact q
end
end Mine

open PySem PySem.W PySem.W.X PyProof.Rows PySem.Calls PySem.Spec
set_option Elab.async false
namespace Mine
set_option maxRecDepth 100000
set_option maxHeartbeats 1000000
set_option linter.unusedVariables false

/-- what a comprehension sees of the names around it -/
def Caps (env : Env) (scope : Scope) (cl : List (Str × Addr)) (ρ : DEnv) : DEnv → Prop
  | [] => True
  | (x, d) :: r => (ρ.lookup x = some d ∧ env.kindOf x ≠ some .local ∧ ((relabel scope env).names.lookup x = some .cell ∨ (relabel scope env).names.lookup x = some .free) ∧ cl.lookup x = env.cells.lookup x) ∧ Caps env scope cl ρ r
theorem Caps.at {env : Env} {scope : Scope} {cl : List (Str × Addr)} {ρ : DEnv} {x : Str} {d : Dat} : ∀ {r : DEnv}, Caps env scope cl ρ r → r.lookup x = some d → ρ.lookup x = some d ∧ env.kindOf x ≠ some .local ∧ ((relabel scope env).names.lookup x = some .cell ∨ (relabel scope env).names.lookup x = some .free) ∧ cl.lookup x = env.cells.lookup x
  | [], _, h => by cases h
  | (y, e) :: r, hc, h => by
    rw [List.lookup_cons] at h
    split at h
    · rename_i q
      cases h
      have := eq_of_beq q; subst this
      exact hc.1
    · exact Caps.at hc.2 h

section
variable {c : Cx} {k : Nat} {env : Env} {ρ : DEnv}

theorem comp_run {elt target iter : Expr} {ifs : List Expr} {gs : List Comprehension} {scope : Scope} {pos cpos : Pos} {cl : List (Str × Addr)} {ρc : DEnv} {ds : List Dat} {G : Dat → List Dat} {use : Option (Value → Sem Unit)}
    (hi : EI c k env ρ target iter ds) (hclos : closureFor scope env = pure cl) (hcell : ∀ y ∈ scope.names, y.2 ≠ .cell) (hkind : scope.kind = .function)
    (hnames : ∀ y ∈ scope.names, y.2 = .local → scope.names.lookup y.1 = some .local) (hcap : Caps env scope cl ρ ρc) (hcov : ∀ x a, cl.lookup x = some a → (ρc.lookup x).isSome = true)
    (hcb : ∀ C, CB c k (compEnvC scope cl C env) elt target ifs gs ρc ds G) (hlen : (ds.flatMap G).length ≤ 10000)
    (hgs : ∀ g ∈ (⟨target, iter, ifs, 0⟩ : Comprehension) :: gs, g.is_async = 0 ∧ ∀ env' x, foldedSetIterable g.iter env' x = pure x)
    {A : Around} {s : Shared} {β : View} {Q : Value → Shared → Prop} (ha : AOk k A) (hb : Base c s.heap) (hs : Sub β s.heap) (V : Vars c env ρ β s.heap)
    (hQ : ∀ D C h' β' t m vs n, Nx β s.heap β' h' → h'.Ns C m → s.heap.get? D = none → s.heap.get? C = none → β' D = none → β' C = none → D ≠ C → h'.get? D = some (lstO vs n) → Rds c β' vs (ds.flatMap G) → compPost (model c.prog c.w) A (fun _ _ => False) use Q (.ref D) C (.ok .next) { s with heap := h', toks := t }) :
    wpAny (model c.prog c.w) A (comprehension (.ListComp elt (⟨target, iter, ifs, 0⟩ :: gs) scope pos) scope env cpos (newList []) false (eval iter env) use) Q (fun _ _ => False) s := by
  refine wpAny_comprehension_free rfl (fun x => (hgs _ List.mem_cons_self).2 env x) hclos hkind hnames ?_
  refine hi A s β _ ha hb hs V fun I It adrs h1 β1 t1 n1 hf hn hadr hg hit => ?_
  refine wpAny_newObj_type (wpAny_newFunctionEnv hcell (by intro y hy; simp at hy) (fun h₂ hns₂ hsb₂ => ?_) hkind)
  dsimp only at hns₂ hsb₂ ⊢
  generalize hH2 : h1.push { cls := .type "list", dict := none, data := .seq ([] : List Value).toArray } = H2 at hns₂ hsb₂ ⊢
  have hC : H2.objs.size = h1.objs.size + 1 := by rw [← hH2, Heap.size_push]
  have hDC0 : h1.objs.size ≠ H2.objs.size := by rw [hC]; exact Nat.ne_of_lt (Nat.lt_succ_self _)
  have hCle : h1.objs.size ≤ H2.objs.size := by rw [hC]; exact Nat.le_succ _
  have below : ∀ b o, h1.get? b = some o → b ≠ H2.objs.size ∧ b ≠ h1.objs.size := fun b o e => by
    have := Heap.lt_size e
    exact ⟨by rw [hC]; exact Nat.ne_of_lt (Nat.lt_succ_of_lt this), Nat.ne_of_lt this⟩
  have old : ∀ b o, h1.get? b = some o → h₂.get? b = some o := fun b o e => hsb₂.extBut b o (below b o e).1 (Heap.get?_push_of_some _ (hH2 ▸ Heap.get?_push_of_some _ e))
  have hD : h₂.get? h1.objs.size = some (lstO [] 0) := hsb₂.extBut _ _ hDC0 (Heap.get?_push_of_some _ (hH2 ▸ Heap.get?_push_size _ rfl))
  have freshS : ∀ a, h1.objs.size ≤ a → s.heap.get? a = none := fun a hle => by
    cases q : s.heap.get? a with
    | none => rfl
    | some o => exact absurd (Heap.lt_size (n1.kp _ _ q)) (Nat.not_lt.mpr hle)
  have freshB : ∀ a, h1.objs.size ≤ a → β1 a = none := fun a hle => by
    cases q : β1 a with
    | none => rfl
    | some o => exact absurd (Heap.lt_size (n1.sub _ _ q)) (Nat.not_lt.mpr hle)
  have n2 : Nx β s.heap β1 h₂ := n1.trans (Nx.keep n1.sub old)
  have adlt : ∀ a ∈ adrs, a < h1.objs.size := fun a hm => by
    rw [← hadr 0] at hm
    obtain ⟨p, hp, rfl⟩ := List.mem_map.mp hm
    obtain ⟨o, e, _⟩ := hg p hp
    exact Heap.lt_size e
  have S : StB c (compEnvC scope cl H2.objs.size env) β s.heap ρc [] ((h1.objs.size, accP c β1 []) :: (It 0 ++ [])) h₂ β1 [] := by
    refine ⟨n2, ⟨hkind, V.gl, V.bl, fun x d e => ?_⟩, ?_, fun a hm => ?_, fun a hm => ?_, ⟨_, hns₂⟩, fun a hm => (List.not_mem_nil hm).elim, rfl, fun i x d a h1 => (by simp at h1), fun p hp => ?_, fun x a l => ?_⟩
    · obtain ⟨q1, q2, q3, q4⟩ := hcap.at e
      obtain ⟨v, r, l⟩ := V.at' x d q1
      refine ⟨v, r.mono n1.ext, ?_⟩
      rcases l with ⟨e1, _⟩ | ⟨e1, a, l, q⟩
      · exact (q2 e1).elim
      · exact .inr ⟨q3, a, q4.trans l, (q.keeps n1.kp).keeps old⟩
    · show (H2.objs.size :: ([] ++ ([] ++ ((h1.objs.size, accP c β1 []) :: (It 0 ++ [])).map (·.1)))).Nodup
      rw [List.nil_append, List.nil_append, List.append_nil, List.map_cons, hadr]
      simp only [List.nodup_cons, List.mem_cons, not_or]
      refine ⟨⟨fun e => hDC0 e.symm, fun hm => ?_⟩, fun hm => ?_, hn⟩
      · exact absurd (adlt _ hm) (Nat.not_lt.mpr hCle)
      · exact absurd (adlt _ hm) (Nat.lt_irrefl _)
    · rcases List.mem_cons.mp hm with rfl | hm
      · exact freshB _ hCle
      · have hm : a ∈ [] ++ ([] ++ ((h1.objs.size, accP c β1 []) :: (It 0 ++ [])).map (·.1)) := hm
        rw [List.nil_append, List.nil_append, List.append_nil, List.map_cons, hadr] at hm
        rcases List.mem_cons.mp hm with rfl | hm
        · exact freshB _ (Nat.le_refl _)
        · exact (hf a hm).2
    · rcases List.mem_cons.mp hm with rfl | hm
      · exact freshS _ hCle
      · have hm : a ∈ [] ++ ([] ++ ((h1.objs.size, accP c β1 []) :: (It 0 ++ [])).map (·.1)) := hm
        rw [List.nil_append, List.nil_append, List.append_nil, List.map_cons, hadr] at hm
        rcases List.mem_cons.mp hm with rfl | hm
        · exact freshS _ (Nat.le_refl _)
        · exact (hf a hm).1
    · rcases List.mem_cons.mp hp with rfl | hp
      · exact ⟨_, hD, [], 0, rfl, Rds.nil⟩
      · rw [List.append_nil] at hp
        obtain ⟨o, e, q⟩ := hg p hp
        exact ⟨o, old _ _ e, q⟩
    · right
      have l : cl.lookup x = some a := l
      obtain ⟨d, hd⟩ := Option.isSome_iff_exists.mp (hcov x a l)
      obtain ⟨q1, q2, q3, q4⟩ := hcap.at hd
      obtain ⟨v, r, lk⟩ := V.at' x d q1
      rcases lk with ⟨e1, _⟩ | ⟨e1, a', l', o, q, _⟩
      · exact (q2 e1).elim
      · rw [q4, l'] at l; cases l; exact ⟨o, q⟩
  have loop : codeAny (model c.prog c.w) A (.compLoop (.ListComp elt (⟨target, iter, ifs, 0⟩ :: gs) scope pos) 0 (.ref I) (.ref h1.objs.size) (compEnvC scope cl H2.objs.size env))
      (compPost (model c.prog c.w) A (fun _ _ => False) use Q (.ref h1.objs.size) H2.objs.size) { s with heap := h₂, toks := t1 + ([] : List (Str × Value)).length } := by
    refine comp_loop (gens := ⟨target, iter, ifs, 0⟩ :: gs) ha hb (fun g hm => ⟨(hgs g hm).1, (hgs g hm).2 _⟩) gs 0 target iter ifs rfl rfl ρc ds G (hcb _) β1 I It adrs [] hit hadr ds.length 0 (by omega) [] h₂ _ β1 _ (fun _ _ e => e) S (by simpa using hlen) fun h' t' β' hx' S' => ?_
    rw [List.drop_zero, List.nil_append] at S'
    obtain ⟨o, e, vs, n, rfl, rs⟩ := S'.hi _ List.mem_cons_self
    obtain ⟨m, hm⟩ := S'.fr
    exact hQ h1.objs.size H2.objs.size h' β' t' m vs n S'.nx hm (freshS _ (Nat.le_refl _)) (freshS _ hCle) (S'.pb _ (hid_priv List.mem_cons_self)) (S'.pb _ List.mem_cons_self) hDC0 e rs
  exact comp_start rfl loop (hit.self A _ 0 _ _ (fun p hp => let ⟨o, e, q⟩ := hg p hp; ⟨o, old _ _ e, q⟩) loop)

theorem ev_comp {elt target iter : Expr} {ifs : List Expr} {gs : List Comprehension} {scope : Scope} {pos : Pos} {cl : List (Str × Addr)} (ρc : DEnv) (ds : List Dat) (G : Dat → List Dat)
    (hi : EI c k env ρ target iter ds) (hclos : closureFor scope env = pure cl) (hcell : ∀ y ∈ scope.names, y.2 ≠ .cell) (hkind : scope.kind = .function)
    (hnames : ∀ y ∈ scope.names, y.2 = .local → scope.names.lookup y.1 = some .local) (hcap : Caps env scope cl ρ ρc) (hcov : ∀ x a, cl.lookup x = some a → (ρc.lookup x).isSome = true)
    (hcb : ∀ C, CB c k (compEnvC scope cl C env) elt target ifs gs ρc ds G) (hlen : (ds.flatMap G).length ≤ 10000)
    (hgs : ∀ g ∈ (⟨target, iter, ifs, 0⟩ : Comprehension) :: gs, g.is_async = 0 ∧ ∀ env' x, foldedSetIterable g.iter env' x = pure x) :
    EV c k env ρ (.ListComp elt (⟨target, iter, ifs, 0⟩ :: gs) scope pos) (.lst (ds.flatMap G)) := by
  intro A s β Q ha hb hs V hQ
  rw [eval_ListComp]
  refine comp_run (use := none) hi hclos hcell hkind hnames hcap hcov hcb hlen hgs ha hb hs V fun D C h' β' t m vs n nx hm hD hC hDb hCb hDC hDo rs => ⟨m, hm, fun h'' hs'' => ?_⟩
  have kp : ∀ b o, b ≠ C → h'.get? b = some o → h''.get? b = some o := fun b o ne e => (hs''.2 b ne).trans e
  have n2 : Nx β s.heap (fun x => if x = D then some (lstO vs n) else β' x) h'' := by
    refine ⟨fun b o e => kp b o (fun q => by rw [q, hC] at e; cases e) (nx.kp b o e), fun a o e => ?_, fun a o e => ?_, fun a o e e0 => ?_⟩
    · by_cases q : a = D
      · subst q; rw [hs a o e] at hD; cases hD
      · rw [if_neg q]; exact nx.ext a o e
    · by_cases q : a = D
      · rw [if_pos q] at e; cases e; subst q; exact kp _ _ hDC hDo
      · rw [if_neg q] at e; exact kp _ _ (fun z => by rw [z, hCb] at e; cases e) (nx.sub a o e)
    · by_cases q : a = D
      · rw [q]; exact hD
      · rw [if_neg q] at e; exact nx.new a o e e0
  refine hQ _ h'' _ t n2 (.lst (by rw [if_pos rfl]) rs.1 fun i v d h1 h2 => (rs.2 i v d h1 h2).mono fun a o e => ?_)
  by_cases q : a = D
  · subst q; rw [hDb] at e; cases e
  · rw [if_neg q]; exact e

theorem ef_comp {elt target iter : Expr} {ifs : List Expr} {gs : List Comprehension} {scope : Scope} {pos : Pos} {cl : List (Str × Addr)} (ρc : DEnv) (ds : List Dat) (G : Dat → List Dat)
    (hi : EI c k env ρ target iter ds) (hclos : closureFor scope env = pure cl) (hcell : ∀ y ∈ scope.names, y.2 ≠ .cell) (hkind : scope.kind = .function)
    (hnames : ∀ y ∈ scope.names, y.2 = .local → scope.names.lookup y.1 = some .local) (hcap : Caps env scope cl ρ ρc) (hcov : ∀ x a, cl.lookup x = some a → (ρc.lookup x).isSome = true)
    (hcb : ∀ C, CB c k (compEnvC scope cl C env) elt target ifs gs ρc ds G) (hlen : (ds.flatMap G).length ≤ 10000)
    (hgs : ∀ g ∈ (⟨target, iter, ifs, 0⟩ : Comprehension) :: gs, g.is_async = 0 ∧ ∀ env' x, foldedSetIterable g.iter env' x = pure x) (himm : ∀ d ∈ ds.flatMap G, Imm d) :
    EF c k env ρ (.ListComp elt (⟨target, iter, ifs, 0⟩ :: gs) scope pos) (ds.flatMap G) := by
  intro A s β Q ha hb hs V hQ
  rw [eval_ListComp]
  refine comp_run (use := none) hi hclos hcell hkind hnames hcap hcov hcb hlen hgs ha hb hs V fun D C h' β' t m vs n nx hm hD hC hDb hCb hDC hDo rs => ⟨m, hm, fun h'' hs'' => ?_⟩
  have kp : ∀ b o, b ≠ C → h'.get? b = some o → h''.get? b = some o := fun b o ne e => (hs''.2 b ne).trans e
  exact hQ D vs n h'' t (fun b o e => kp b o (fun q => by rw [q, hC] at e; cases e) (nx.kp b o e)) hD (kp _ _ hDC hDo) fun β'' => rs.imm himm

variable {A : Around} {β₀ : View} {h₀ : Heap} {s₀ : Shared} {σ : DEnv} {η : Hid} {K : Flow → Shared → Prop} {rest : List Stmt}

def NsP : Obj → Prop := fun o => ∃ es ep, ∃ m : Str → Option Value, o.data = .dict es ep ∧ StrKeys es ∧ ∀ name, nsFind es name = m name
theorem NsP.of {h : Heap} {C : Addr} {m : Str → Option Value} (x : h.Ns C m) : ∃ o, h.get? C = some o ∧ NsP o := let ⟨o, es, ep, e, q1, q2, q3⟩ := x; ⟨o, e, es, ep, m, q1, q2, q3⟩
theorem NsP.ns {h : Heap} {C : Addr} {o : Obj} (e : h.get? C = some o) (x : NsP o) : ∃ m, h.Ns C m := let ⟨es, ep, m, q1, q2, q3⟩ := x; ⟨m, o, es, ep, e, q1, q2, q3⟩

/-- x = [..for..], shown to all -/
theorem x_assign_comp {x : Str} {p' spos : Pos} {elt target iter : Expr} {ifs : List Expr} {gs : List Comprehension} {scope : Scope} {pos : Pos} {cl : List (Str × Addr)} (ρc : DEnv) (ds : List Dat) (G : Dat → List Dat)
    (hi : EI c k env ρ target iter ds) (hclos : closureFor scope env = pure cl) (hcell : ∀ y ∈ scope.names, y.2 ≠ .cell) (hkind : scope.kind = .function)
    (hnames : ∀ y ∈ scope.names, y.2 = .local → scope.names.lookup y.1 = some .local) (hcap : Caps env scope cl ρ ρc) (hcov : ∀ x a, cl.lookup x = some a → (ρc.lookup x).isSome = true)
    (hcb : ∀ C, CB c k (compEnvC scope cl C env) elt target ifs gs ρc ds G) (hlen : (ds.flatMap G).length ≤ 10000)
    (hgs : ∀ g ∈ (⟨target, iter, ifs, 0⟩ : Comprehension) :: gs, g.is_async = 0 ∧ ∀ env' x, foldedSetIterable g.iter env' x = pure x)
    (hσ : σ.lookup x = none) (hx : KindOk env x) (hsw : swapsWith (.ListComp elt (⟨target, iter, ifs, 0⟩ :: gs) scope pos) (some (.Name x p')) spos.line env = pure true)
    (h : SX c k A env β₀ h₀ s₀ ((x, .lst (ds.flatMap G)) :: ρ) σ η rest K) :
    SX c k A env β₀ h₀ s₀ ρ σ η (.Assign [.Name x p'] (.ListComp elt (⟨target, iter, ifs, 0⟩ :: gs) scope pos) spos :: rest) K := by
  rintro ha hb _ ⟨h', t, β, own, rfl, S⟩
  refine wpAny_execs_cons ?_
  rw [exec_Assign_Name_used _ _ _ _ hsw]
  refine wpAny_bind (wpAny_standAt (wpAny_bind ?_))
  show wpAny _ A (do let _ ← comprehension (.ListComp elt (⟨target, iter, ifs, 0⟩ :: gs) scope pos) scope env _ (newList []) false (eval iter env) (some (assign (.Name x p') env))) _ _ _
  refine wpAny_bind (wpAny_mono (comp_run (use := some (assign (.Name x p') env)) (Q := fun _ s' => Kseq c A env rest K .next s') hi hclos hcell hkind hnames hcap hcov hcb hlen hgs ha (hb.kp S.nx.kp) S.nx.sub S.vars fun D C h1 β1 t1 m vs n nx hm hD hC hDb hCb hDC hDo rs => ?_) (fun _ s' hq => wpAny_pure (wpAny_pure hq)) fun _ _ e => e)
  show wpAny _ A (assign (.Name x p') env (.ref D)) _ _ _
  have n2 : Nx β h' (fun x => if x = D then some (lstO vs n) else β1 x) h1 := by
    refine ⟨nx.kp, fun a o e => ?_, fun a o e => ?_, fun a o e e0 => ?_⟩
    · by_cases q : a = D
      · subst q; have := S.nx.sub a o e; dsimp only at hD; rw [this] at hD; cases hD
      · rw [if_neg q]; exact nx.ext a o e
    · by_cases q : a = D
      · rw [if_pos q] at e; cases e; subst q; exact hDo
      · rw [if_neg q] at e; exact nx.sub a o e
    · by_cases q : a = D
      · rw [q]; exact hD
      · rw [if_neg q] at e; exact nx.new a o e e0
  have r : Rd c (fun x => if x = D then some (lstO vs n) else β1 x) (.ref D) (.lst (ds.flatMap G)) := .lst (by rw [if_pos rfl]) rs.1 fun i v d h1 h2 => (rs.2 i v d h1 h2).mono fun a o e => by
    by_cases q : a = D
    · subst q; rw [hDb] at e; cases e
    · rw [if_neg q]; exact e
  have S1 := S.hide (hid := [(C, NsP)]) n2 (fun a hm => by rw [List.mem_singleton.mp hm]; exact ⟨hC, by rw [if_neg (Ne.symm hDC)]; exact hCb⟩) (by simp) (fun p hp => by rw [List.mem_singleton.mp hp]; exact NsP.of hm)
  refine wpAny_assign_Name (store (s := { s₀ with heap := h1, toks := t1 }) S1 r hσ hx fun h2 t2 S2 => ?_)
  obtain ⟨o, e, q⟩ := S2.hi (C, NsP) List.mem_cons_self
  obtain ⟨m2, hm2⟩ := q.ns e
  exact ⟨m2, hm2, fun h3 hs3 => h ha hb _ ⟨h3, t2, _, own, rfl, S2.dropHid fun b o hm e => (hs3.2 b fun q => hm (by rw [q]; exact List.mem_cons_self)).trans e⟩⟩

/-- x = [..for..], the frame's own -/
theorem x_own_comp {x : Str} {p' spos : Pos} {elt target iter : Expr} {ifs : List Expr} {gs : List Comprehension} {scope : Scope} {pos : Pos} {cl : List (Str × Addr)} (ρc : DEnv) (ds : List Dat) (G : Dat → List Dat)
    (hi : EI c k env (ρ ++ σ) target iter ds) (hclos : closureFor scope env = pure cl) (hcell : ∀ y ∈ scope.names, y.2 ≠ .cell) (hkind : scope.kind = .function)
    (hnames : ∀ y ∈ scope.names, y.2 = .local → scope.names.lookup y.1 = some .local) (hcap : Caps env scope cl (ρ ++ σ) ρc) (hcov : ∀ x a, cl.lookup x = some a → (ρc.lookup x).isSome = true)
    (hcb : ∀ C, CB c k (compEnvC scope cl C env) elt target ifs gs ρc ds G) (hlen : (ds.flatMap G).length ≤ 10000)
    (hgs : ∀ g ∈ (⟨target, iter, ifs, 0⟩ : Comprehension) :: gs, g.is_async = 0 ∧ ∀ env' x, foldedSetIterable g.iter env' x = pure x) (himm : ∀ d ∈ ds.flatMap G, Imm d)
    (hρ : ρ.lookup x = none) (hσ : σ.lookup x = none) (hx : KindOk env x) (hsw : swapsWith (.ListComp elt (⟨target, iter, ifs, 0⟩ :: gs) scope pos) (some (.Name x p')) spos.line env = pure true)
    (h : SX c k A env β₀ h₀ s₀ ρ ((x, .lst (ds.flatMap G)) :: σ) η rest K) :
    SX c k A env β₀ h₀ s₀ ρ σ η (.Assign [.Name x p'] (.ListComp elt (⟨target, iter, ifs, 0⟩ :: gs) scope pos) spos :: rest) K := by
  rintro ha hb _ ⟨h', t, β, own, rfl, S⟩
  refine wpAny_execs_cons ?_
  rw [exec_Assign_Name_used _ _ _ _ hsw]
  refine wpAny_bind (wpAny_standAt (wpAny_bind ?_))
  show wpAny _ A (do let _ ← comprehension (.ListComp elt (⟨target, iter, ifs, 0⟩ :: gs) scope pos) scope env _ (newList []) false (eval iter env) (some (assign (.Name x p') env))) _ _ _
  refine wpAny_bind (wpAny_mono (comp_run (use := some (assign (.Name x p') env)) (Q := fun _ s' => Kseq c A env rest K .next s') hi hclos hcell hkind hnames hcap hcov hcb hlen hgs ha (hb.kp S.nx.kp) S.sub_plus S.vars_plus fun D C h1 β1 t1 m vs n nx hm hD hC hDb hCb hDC hDo rs => ?_) (fun _ s' hq => wpAny_pure (wpAny_pure hq)) fun _ _ e => e)
  show wpAny _ A (assign (.Name x p') env (.ref D)) _ _ _
  have hCβ : β C = none := by
    cases q : β C with
    | none => rfl
    | some o => have := S.nx.sub _ _ q; dsimp only at hC; rw [this] at hC; cases hC
  have S1 := S.hide (hid := [(C, NsP)]) (Nx.keep S.nx.sub nx.kp) (fun a hm => by rw [List.mem_singleton.mp hm]; exact ⟨hC, hCβ⟩) (by simp) (fun p hp => by rw [List.mem_singleton.mp hp]; exact NsP.of hm)
  have hD1 : D ∉ priv env (own ++ ([(C, NsP)] ++ η).map (·.1)) := fun hm => by
    rcases hid_mem hm with q | q
    · exact hDC (by simpa using q)
    · obtain ⟨o, e⟩ := S.mem_get q; dsimp only at hD; rw [e] at hD; cases hD
  refine wpAny_assign_Name (own_put (d := .lst (ds.flatMap G)) S1 hD1 ?_ ?_ ⟨vs, n, hDo, rs.imm himm⟩ hρ hσ hx fun h2 t2 S2 => ?_)
  · cases q : β D with
    | none => rfl
    | some o => have := S.nx.sub _ _ q; dsimp only at hD; rw [this] at hD; cases hD
  · cases q : h₀.get? D with
    | none => rfl
    | some o => have := S.nx.kp _ _ q; dsimp only at hD; rw [this] at hD; cases hD
  obtain ⟨o, e, q⟩ := S2.hi (C, NsP) List.mem_cons_self
  obtain ⟨m2, hm2⟩ := q.ns e
  exact ⟨m2, hm2, fun h3 hs3 => h ha hb _ ⟨h3, t2, _, _, rfl, S2.dropHid fun b o hm e => (hs3.2 b fun q => hm (by rw [q]; exact List.mem_cons_self)).trans e⟩⟩
end
end Mine

open PySem PySem.W PySem.W.X PyProof.Rows PySem.Calls PySem.Spec
set_option Elab.async false
namespace Mine
set_option maxRecDepth 100000
set_option maxHeartbeats 1000000
set_option linter.unusedVariables false

/-- the datum is a tuple of these -/
def IsT (c : Cx) (d : Dat) (ds : List Dat) : Prop := ∀ (β : View) (h : Heap) (v : Value), Base c h → Sub β h → Rd c β v d → ∃ a vs n, v = .ref a ∧ h.get? a = some (tupO vs n) ∧ Rds c β vs ds
theorem is_tup {c : Cx} {ds : List Dat} : IsT c (.tup ds) ds := fun β h v hb hs r => let ⟨a, vs, n, e, q, rs⟩ := r.inv_tup; ⟨a, vs, n, e, hs _ _ q, rs⟩
theorem is_kref {c : Cx} {a : Addr} {vs : List Value} {n : Nat} {ds : List Dat} (hk : c.K.lookup a = some (tupO vs n)) (hr : ∀ β, Rds c β vs ds) : IsT c (.kref a) ds := fun β h v hb hs r => by
  cases r.inv_kref
  exact ⟨a, vs, n, rfl, hb.1 _ _ hk, hr β⟩

inductive AL (c : Cx) (k : Nat) (env : Env) (σ : DEnv) : List Expr → List Dat → DEnv → DEnv → Prop
  | nil {ρ : DEnv} : AL c k env σ [] [] ρ ρ
  | cons {t : Expr} {ts : List Expr} {d : Dat} {ds : List Dat} {ρ ρ1 ρ2 : DEnv} : AS c k env t d ρ ρ1 σ → assignEach (t :: ts) env = (false, assign t env) :: assignEach ts env → AL c k env σ ts ds ρ1 ρ2 → AL c k env σ (t :: ts) (d :: ds) ρ ρ2

section
variable {c : Cx} {k : Nat} {env : Env} {ρ σ : DEnv}

theorem AL.len {ts : List Expr} {ds : List Dat} {ρ ρ' : DEnv} (h : AL c k env σ ts ds ρ ρ') : (assignEach ts env).length = ds.length := by
  induction h with
  | nil => rfl
  | cons _ e _ ih => rw [e, List.length_cons, List.length_cons, ih]
theorem AL.star {ts : List Expr} {ds : List Dat} {ρ ρ' : DEnv} (h : AL c k env σ ts ds ρ ρ') : (assignEach ts env).findIdx? (·.1) = none := by
  induction h with
  | nil => rfl
  | cons _ e _ ih => rw [e, List.findIdx?_cons]; simp [ih]
theorem AL.run {ts : List Expr} {ds : List Dat} {ρ ρ' : DEnv} (h : AL c k env σ ts ds ρ ρ') : ∀ (A : Around) (s₀ : Shared) (β₀ : View) (h₀ : Heap) (η : Hid) (h : Heap) (t : Nat) (β : View) (own : List Addr) (vs : List Value) (Q : Unit → Shared → Prop), AOk k A → Base c h₀ → StB c env β₀ h₀ ρ σ η h β own → Rds c β vs ds →
    (∀ s', St c env β₀ h₀ ρ' σ η s₀ s' → Q () s') → wpAny (model c.prog c.w) A (assignInOrder ((assignEach ts env).map (·.2)) vs) Q (fun _ _ => False) { s₀ with heap := h, toks := t } := by
  induction h with
  | nil => exact fun A s₀ β₀ h₀ η h t β own vs Q ha hb S r hQ => by cases r.inv_nil; exact wpAny_pure (hQ _ ⟨h, t, β, own, rfl, S⟩)
  | cons has e _ ih =>
    intro A s₀ β₀ h₀ η h t β own vs Q ha hb S r hQ
    obtain ⟨v, vs', rfl, r1, r2⟩ := r.inv_cons
    rw [e]
    refine wpAny_bind (wpAny_holding (has A s₀ β h₀ η h t β own v _ ha hb S.base r1 ?_))
    rintro _ ⟨h1, t1, β1, own1, rfl, S1⟩
    exact ih A s₀ β₀ h₀ η h1 t1 β1 own1 vs' Q ha hb (S1.rebase S.nx) (r2.mono S1.nx.ext) hQ

theorem as_tuple {ts : List Expr} {n : Nat} {pos : Pos} {d : Dat} {ds : List Dat} {ρ' : DEnv} (ht : IsT c d ds) (hl : AL c k env σ ts ds ρ ρ') : AS c k env (.Tuple ts n pos) d ρ ρ' σ := by
  intro A s₀ β₀ h₀ η h t β own v Q ha hb S r hQ
  obtain ⟨a, vs, n, rfl, e, rs⟩ := ht β h v (hb.kp S.nx.kp) S.nx.sub r
  refine wpAny_assign_Tuple (items := vs.toArray) ha.hh ⟨_, e, rfl, n, rfl⟩ (by rw [hl.len, List.size_toArray, rs.1]) hl.star fun h' hx => ?_
  have kp : Kp h h' := fun b o e => hx b o (Nat.ne_of_lt (Heap.lt_size e)) e
  exact hl.run A s₀ β₀ h₀ η h' t β own vs Q ha hb (S.later (Nx.keep S.nx.sub kp)) rs hQ

theorem ak_tuple2 {x y : Str} {px py : Pos} {n : Nat} {pos : Pos} {d d1 d2 : Dat} (ht : IsT c d [d1, d2]) (hx : KindOk env x) (hy : KindOk env y) (hρx : ρ.lookup x = none) (hρy : ρ.lookup y = none) :
    AK c k env (.Tuple [.Name x px, .Name y py] n pos) d ρ ((y, d2) :: (x, d1) :: ρ) := by
  refine ⟨as_tuple ht (.cons (as_name rfl hx) rfl (.cons (as_name rfl hy) rfl .nil)), fun z e h => ?_⟩
  have h1 : (z == x) = false := by simpa using lookup_none_ne hρx h
  have h2 : (z == y) = false := by simpa using lookup_none_ne hρy h
  rw [List.lookup_cons, h2, List.lookup_cons, h1]; exact h

variable {A : Around} {β₀ : View} {h₀ : Heap} {s₀ : Shared} {η : Hid} {K : Flow → Shared → Prop} {rest : List Stmt}

/-- a, b = e -/
theorem x_unpack {ts : List Expr} {n : Nat} {tpos pos : Pos} {e : Expr} {d : Dat} {ds : List Dat} {ρ' : DEnv} (he : EV c k env ρ e d) (ht : IsT c d ds) (hl : AL c k env σ ts ds ρ ρ') (h : SX c k A env β₀ h₀ s₀ ρ' σ η rest K)
    (hs : swapsWithSole [.Tuple ts n tpos] e pos.line env = pure false := by rfl) (hw : swappedStores [.Tuple ts n tpos] e env = pure none := by rfl) :
    SX c k A env β₀ h₀ s₀ ρ σ η (.Assign [.Tuple ts n tpos] e pos :: rest) K := by
  rintro ha hb _ ⟨h', t, β, own, rfl, S⟩
  refine wpAny_execs_cons (Assign_Tuple (he A _ β _ ha (hb.kp S.nx.kp) S.nx.sub S.vars fun v h1 β1 t1 n1 r1 => ?_) hs hw)
  exact as_tuple ht hl A s₀ β₀ h₀ η h1 t1 β1 own v _ ha hb (S.later n1) r1 fun s' S' => h ha hb s' S'

theorem rds_rev {β : View} {vs : List Value} {ds : List Dat} (r : Rds c β vs ds) : Rds c β vs.reverse ds.reverse := by
  induction ds generalizing vs with
  | nil => cases r.inv_nil; exact Rds.nil
  | cons d ds ih =>
    obtain ⟨v, vs', rfl, r1, r2⟩ := r.inv_cons
    rw [List.reverse_cons, List.reverse_cons]
    exact (ih r2).snoc r1

theorem bind_all : ∀ (ns : List Str) (ds : List Dat) (ρ : DEnv), (∀ x ∈ ns, KindOk env x ∧ σ.lookup x = none) → ∀ (h : Heap) (t : Nat) (β : View) (own : List Addr) (vs : List Value) (Q : Unit → Shared → Prop), StB c env β₀ h₀ ρ σ η h β own → Rds c β vs ds → ns.length = ds.length →
    (∀ s', St c env β₀ h₀ ((ns.zip ds).reverse ++ ρ) σ η s₀ s' → Q () s') → wpAny (model c.prog c.w) A (assignInOrder (ns.map fun n => bindName env n) vs) Q (fun _ _ => False) { s₀ with heap := h, toks := t }
  | [], ds, ρ, hn, h, t, β, own, vs, Q, S, r, hl, hQ => by
    cases ds with
    | nil => cases r.inv_nil; exact wpAny_pure (hQ _ ⟨h, t, β, own, rfl, S⟩)
    | cons => simp at hl
  | x :: ns, ds, ρ, hn, h, t, β, own, vs, Q, S, r, hl, hQ => by
    cases ds with
    | nil => simp at hl
    | cons d ds =>
      obtain ⟨v, vs', rfl, r1, r2⟩ := r.inv_cons
      obtain ⟨hk, hσ⟩ := hn x List.mem_cons_self
      refine wpAny_bind (wpAny_holding (wpAny_bindName (store (s := { s₀ with heap := h, toks := t }) S r1 hσ hk fun h1 t1 S1 => ?_)))
      refine bind_all ns ds ((x, d) :: ρ) (fun y hy => hn y (List.mem_cons_of_mem _ hy)) h1 t1 β own vs' Q S1 r2 (by simpa using hl) fun s' S' => hQ s' ?_
      simpa using S'

theorem zip_rev {α γ : Type} : ∀ {l : List α} {m : List γ}, l.length = m.length → (l.reverse.zip m.reverse).reverse = l.zip m
  | [], [], _ => rfl
  | a :: l, b :: m, h => by
    have h' : l.length = m.length := by simpa using h
    rw [List.reverse_cons, List.reverse_cons, List.zip_append (by simp [h'])]
    simp [zip_rev h']
  | [], _ :: _, h => by simp at h
  | _ :: _, [], h => by simp at h

/-- a, b = e1, e2: stored from the last -/
theorem x_unpack_swap {ts : List Expr} {n : Nat} {tpos pos : Pos} {e : Expr} {d : Dat} {ds : List Dat} (ns : List Str) (he : EV c k env ρ e d) (ht : IsT c d ds) (hn : ∀ x ∈ ns, KindOk env x ∧ σ.lookup x = none) (hl : ns.length = ds.length)
    (h : SX c k A env β₀ h₀ s₀ (ns.zip ds ++ ρ) σ η rest K)
    (hs : swapsWithSole [.Tuple ts n tpos] e pos.line env = pure false := by rfl) (hw : swappedStores [.Tuple ts n tpos] e env = pure (some ns) := by rfl) :
    SX c k A env β₀ h₀ s₀ ρ σ η (.Assign [.Tuple ts n tpos] e pos :: rest) K := by
  rintro ha hb _ ⟨h', t, β, own, rfl, S⟩
  refine wpAny_execs_cons (Assign_Tuple_swapped (names := ns) (he A _ β _ ha (hb.kp S.nx.kp) S.nx.sub S.vars fun v h1 β1 t1 n1 r1 => ?_) hs hw)
  have S1 := S.later n1
  obtain ⟨a, vs, n, rfl, e, rs⟩ := ht β1 h1 v (hb.kp S1.nx.kp) S1.nx.sub r1
  have hlen : ns.length = vs.toArray.size := by rw [hl, List.size_toArray, rs.1]
  rw [hlen]
  refine wpAny_unpackItems_tuple (items := vs.toArray) ha.hh ⟨_, e, rfl, n, rfl⟩ fun h2 hx => ?_
  have kp : Kp h1 h2 := fun b o e => hx b o (Nat.ne_of_lt (Heap.lt_size e)) e
  refine bind_all ns.reverse ds.reverse ρ (fun x hx => hn x (List.mem_reverse.mp hx)) h2 t1 β1 own _ _ (S1.later (Nx.keep S1.nx.sub kp)) (rds_rev rs) (by simp [hl]) fun s' S' => h ha hb s' ?_
  have e2 : (ns.reverse.zip ds.reverse).reverse = ns.zip ds := by
    exact zip_rev hl
  rw [e2] at S'
  exact S'
end
end Mine

open PySem PySem.W PySem.W.X PyProof.Rows PySem.Calls PySem.Spec
set_option Elab.async false
namespace Mine
set_option maxRecDepth 100000
set_option maxHeartbeats 1000000
set_option linter.unusedVariables false

section
variable {prog : Program} {w : World} {A : Around} {E : Value → Shared → Prop} {s : Shared}
/-- the next of an iterator over a tuple, as the small types ask for it -/
theorem draw_tuple {it t : Addr} {i : Nat} {items : Array Value} {x : Value} {Q : Value → Shared → Prop} (hit : s.heap.IsTupleIter it t i) (ht : s.heap.IsTuple t items) (hx : items[i]? = some x)
    (hQ : ∀ h', h'.IsTupleIter it t (i + 1) → Heap.SameBut it s.heap h' → Q x { s with heap := h' }) : wpAny (model prog w) A (Builtin.SmallTypes.nextOf (.ref it)) Q E s := by
  obtain ⟨oi, e1, e2, e3⟩ := id hit
  obtain ⟨ot, f1, _, nt, f2⟩ := ht
  unfold Builtin.SmallTypes.nextOf
  refine wpAny_bind (wpAny_callSpecial?_slot (name := Str.ofString "__next__") hit.typeIs F.slot_tuple_iterator_next (wpAny_call_entry F.slot_tuple_iterator_next hit.typeIs F.entry_tuple_iterator_next ?_ (F.args_tuple_iterator_next_1 _)))
  show wpAny _ _ (field (.ref it) 0 >>= _) _ _ s
  refine wpAny_bind (wpAny_field e1 e3 (x := .ref t) rfl ?_)
  show wpAny _ _ (if (Value.ref t == Value.none) = true then _ else _) _ _ s
  rw [if_neg (show ¬ ((Value.ref t == Value.none) = true) from Bool.false_ne_true)]
  show wpAny _ _ (field (.ref it) 1 >>= _) _ _ s
  refine wpAny_bind (wpAny_field e1 e3 (x := .int i 0) rfl ?_)
  show wpAny _ _ (seqItems? (.ref t) >>= _) _ _ s
  refine wpAny_bind (wpAny_seqItems f1 f2 ?_)
  simp only [Int.toNat_natCast, hx]
  refine wpAny_bind (wpAny_setField e1 e3 (by simp) (wpAny_pure ⟨x, rfl, wpAny_pure (hQ _ ⟨_, Heap.get?_update_self _ e1 (Obj.isFreed_of_fields (Obj.data_mapFields e3 _)), (Obj.cls_mapFields ..).trans e2, ?_⟩ (Heap.SameBut.update ..))⟩))
  rw [Obj.data_mapFields e3]; simp [rawInt]

theorem draw_tuple_end {it t : Addr} {i : Nat} {items : Array Value} {Q : Value → Shared → Prop} (hh : A.handled = none) (hit : s.heap.IsTupleIter it t i) (ht : s.heap.IsTuple t items) (hx : items[i]? = none)
    (hE : ∀ h' e, Heap.ExtBut it s.heap h' → (∃ o, h'.get? e = some o ∧ o.cls = .type "StopIteration") → E (.ref e) { s with heap := h' }) : wpAny (model prog w) A (Builtin.SmallTypes.nextOf (.ref it)) Q E s := by
  obtain ⟨oi, e1, e2, e3⟩ := id hit
  obtain ⟨ot, f1, _, nt, f2⟩ := ht
  unfold Builtin.SmallTypes.nextOf
  refine wpAny_bind (wpAny_callSpecial?_slot (name := Str.ofString "__next__") hit.typeIs F.slot_tuple_iterator_next (wpAny_call_entry F.slot_tuple_iterator_next hit.typeIs F.entry_tuple_iterator_next ?_ (F.args_tuple_iterator_next_1 _)))
  show wpAny _ _ (field (.ref it) 0 >>= _) _ _ s
  refine wpAny_bind (wpAny_field e1 e3 (x := .ref t) rfl ?_)
  show wpAny _ _ (if (Value.ref t == Value.none) = true then _ else _) _ _ s
  rw [if_neg (show ¬ ((Value.ref t == Value.none) = true) from Bool.false_ne_true)]
  show wpAny _ _ (field (.ref it) 1 >>= _) _ _ s
  refine wpAny_bind (wpAny_field e1 e3 (x := .int i 0) rfl ?_)
  show wpAny _ _ (seqItems? (.ref t) >>= _) _ _ s
  refine wpAny_bind (wpAny_seqItems f1 f2 ?_)
  simp only [Int.toNat_natCast, hx]
  refine wpAny_bind (wpAny_rule (wpAny_bind (wpAny_setField e1 e3 (by simp) ?_)))
  show wpAny _ _ (newExc (.type "StopIteration") [] >>= _) _ _ _
  refine wpAny_bind ?_
  simp only [newExc, newTuple]
  refine wpAny_bind (wpAny_newObj_type ?_ (by size_fits))
  refine wpAny_bind (m := firstArgMember _ _) (wpAny_of_eq (a := Value.none) (by first | rfl | (simp only [firstArgMember]; rfl)) ?_)
  refine wpAny_newObj_type ?_ (by size_fits)
  simp only [raiseNew]
  refine wpAny_bind (wpAny_handled ?_)
  first | rw [show A.in1.handled = none from hh] | rw [hh]
  exact wpAny_bind (wpAny_pure (wpAny_throw (hE _ _ (((Heap.SameBut.update ..).extBut.push _).push _) ⟨_, Heap.get?_push_size _ rfl, rfl⟩)))

abbrev enumO (f0 : Value) (it : Addr) (i : Int) (old : Value) : Obj := { cls := .type "enumerate", dict := none, data := .fields #[f0, .bool false, .ref it, rawInt i, .none, old], slots := #[] }

/-- enumerate gives out the next pair -/
theorem next_enum {e it : Addr} {i : Int} {x old : Value} {P : Heap → Prop} {Q : Option Value → Shared → Prop} (he : s.heap.get? e = some (enumO .none it i old)) (hne : e ≠ it)
    (hn : ∀ (A' : Around) (Q' E' : Value → Shared → Prop), (∀ h', Heap.SameBut it s.heap h' → P h' → Q' x { s with heap := h' }) → wpAny (model prog w) A' (Builtin.SmallTypes.nextOf (.ref it)) Q' E' s)
    (hQ : ∀ h1 h', Heap.SameBut it s.heap h1 → P h1 → (∀ b o, b ≠ e → h1.get? b = some o → h'.get? b = some o) → h'.get? e = some (enumO (rawInt s.heap.objs.size) it (i + 1) x) → h'.get? s.heap.objs.size = some (tupO [.int i s.toks, x] 0) → Q (some (.ref s.heap.objs.size)) { s with heap := h', toks := s.toks + 1 }) :
    wpAny (model prog w) A (pyNext (.ref e)) Q E s := by
  have hT : s.TypeIs (.ref e) "enumerate" := ⟨_, he, rfl⟩
  unfold pyNext
  refine wpAny_bind (wpAny_attempt (wpAny_callSpecial?_slot (name := Str.ofString "__next__") hT F.slot_enumerate_next (wpAny_call_entry F.slot_enumerate_next hT F.entry_enumerate_next ?_ (F.args_enumerate_next_1 _))))
  obtain ⟨hp, g, d, tk, os⟩ := s
  show wpAny _ _ (field (.ref e) 2 >>= _) _ _ _
  refine wpAny_bind (wpAny_field he rfl (x := .ref it) rfl ?_)
  refine wpAny_bind (hn _ _ _ fun h1 hs1 hp1 => ?_)
  replace hs1 : Heap.SameBut it hp h1 := hs1
  have he1 : h1.get? e = some (enumO .none it i old) := (hs1.2 e hne).trans he
  show wpAny _ _ (field (.ref e) 3 >>= _) _ _ ⟨h1, g, d, tk, os⟩
  refine wpAny_bind (wpAny_field he1 rfl (x := rawInt i) rfl ?_)
  show wpAny _ _ (field (.ref e) 4 >>= _) _ _ ⟨h1, g, d, tk, os⟩
  refine wpAny_bind (wpAny_field he1 rfl (x := .none) rfl ?_)
  show wpAny _ _ (mkInt i >>= _) _ _ ⟨h1, g, d, tk, os⟩
  refine wpAny_bind (wpAny_mkInt ?_)
  show wpAny _ _ (setField (.ref e) 3 (rawInt (i + 1)) >>= _) _ _ ⟨h1, g, d, tk + 1, os⟩
  refine wpAny_bind (wpAny_setField_rec he1 (by simp) fun h2 he2 hs2 => ?_)
  replace hs2 : Heap.SameBut e h1 h2 := hs2
  replace he2 : h2.get? e = some (enumO .none it (i + 1) old) := he2
  show wpAny _ _ (setField (.ref e) 4 .none >>= _) _ _ ⟨h2, g, d, tk + 1, os⟩
  refine wpAny_bind (wpAny_setField_rec he2 (by simp) fun h3 he3 hs3 => ?_)
  replace hs3 : Heap.SameBut e h2 h3 := hs3
  replace he3 : h3.get? e = some (enumO .none it (i + 1) old) := he3
  show wpAny _ _ (newTuple [.int i tk, x] >>= _) _ _ ⟨h3, g, d, tk + 1, os⟩
  refine wpAny_bind (wpAny_newTuple ?_)
  have hsz : h3.objs.size = hp.objs.size := by rw [hs3.1, hs2.1, hs1.1]
  have hel : e < hp.objs.size := Heap.lt_size he
  have hne4 : hp.objs.size ≠ e := Nat.ne_of_gt hel
  generalize hh4 : h3.push (tupO [.int i tk, x] 0) = h4
  have he4 : h4.get? e = some (enumO .none it (i + 1) old) := by rw [← hh4]; exact Heap.get?_push_of_some _ he3
  have ht4 : h4.get? hp.objs.size = some (tupO [.int i tk, x] 0) := by rw [← hh4, ← hsz]; exact Heap.get?_push_size _ rfl
  have hk4 : ∀ b o, b ≠ e → h1.get? b = some o → h4.get? b = some o := fun b o hb q => by
    rw [← hh4]; exact Heap.get?_push_of_some _ (hs3.extBut b o hb (hs2.extBut b o hb q))
  dsimp only
  rw [hsz]
  refine wpAny_bind ?_
  unfold Builtin.SmallTypes.ownedTupleIsFree
  refine wpAny_bind (wpAny_field he4 rfl (x := .none) rfl (wpAny_pure ?_))
  simp only [if_true]
  refine wpAny_bind (wpAny_rule (wpAny_bind (wpAny_field he4 rfl (x := old) rfl ?_)))
  refine wpAny_bind (wpAny_setField_rec he4 (by simp) fun h5 he5 hs5 => ?_)
  replace hs5 : Heap.SameBut e h4 h5 := hs5
  replace he5 : h5.get? e = some (enumO .none it (i + 1) x) := he5
  show wpAny _ _ (Builtin.SmallTypes.ownedTupleHandOut (.ref e) (.ref hp.objs.size) >>= _) _ _ ⟨h5, g, d, tk + 1, os⟩
  refine wpAny_bind ?_
  unfold Builtin.SmallTypes.ownedTupleHandOut
  refine wpAny_bind (wpAny_setField_rec he5 (by simp) fun h6 he6 hs6 => ?_)
  replace hs6 : Heap.SameBut e h5 h6 := hs6
  replace he6 : h6.get? e = some (enumO (rawInt hp.objs.size) it (i + 1) x) := he6
  refine wpAny_setField_rec he6 (by simp) fun h7 he7 hs7 => ?_
  replace hs7 : Heap.SameBut e h6 h7 := hs7
  replace he7 : h7.get? e = some (enumO (rawInt hp.objs.size) it (i + 1) x) := he7
  have up : ∀ b o, b ≠ e → h4.get? b = some o → h7.get? b = some o := fun b o hb q => hs7.extBut b o hb (hs6.extBut b o hb (hs5.extBut b o hb q))
  exact wpAny_bind (wpAny_letGo (wpAny_pure ⟨_, rfl, wpAny_pure (hQ h1 h7 hs1 hp1 (fun b o hb q => up b o hb (hk4 b o hb q)) he7 (up _ _ hne4 ht4))⟩))

theorem next_enum_end {e it t : Addr} {i : Int} {j : Nat} {items : Array Value} {old : Value} {Q : Option Value → Shared → Prop} (hh : A.handled = none) (he : s.heap.get? e = some (enumO .none it i old)) (hit : s.heap.IsTupleIter it t j) (ht : s.heap.IsTuple t items) (hx : items[j]? = none)
    (hQ : ∀ h', Heap.ExtBut it s.heap h' → Q none { s with heap := h' }) : wpAny (model prog w) A (pyNext (.ref e)) Q E s := by
  have hT : s.TypeIs (.ref e) "enumerate" := ⟨_, he, rfl⟩
  unfold pyNext
  refine wpAny_bind (wpAny_attempt (wpAny_callSpecial?_slot (name := Str.ofString "__next__") hT F.slot_enumerate_next (wpAny_call_entry F.slot_enumerate_next hT F.entry_enumerate_next ?_ (F.args_enumerate_next_1 _))))
  show wpAny _ _ (field (.ref e) 2 >>= _) _ _ _
  refine wpAny_bind (wpAny_field he rfl (x := .ref it) rfl ?_)
  refine wpAny_bind (draw_tuple_end hh hit ht hx fun h' x he' hx' => ?_)
  obtain ⟨o, ho, hc⟩ := hx'
  exact wpAny_bind (wpAny_isInstance (T := "StopIteration") (b := true) ⟨o, ho, hc⟩ isSubtype_stop (wpAny_pure (hQ _ he')))
end
end Mine

open PySem PySem.W PySem.W.X PyProof.Rows PySem.Calls PySem.Spec
set_option Elab.async false
namespace Mine
set_option maxRecDepth 100000
set_option maxHeartbeats 1000000
set_option linter.unusedVariables false

section
variable {c : Cx} {k : Nat} {env : Env} {ρ : DEnv}

/-- a global of the text -/
theorem ev_gname {x : Str} {pos : Pos} {v : Value} {d : Dat} (e : nsIn c.K mainGlobals x = some (some v)) (kx : env.kindOf x = some .globalImplicit) (hr : ∀ β, Rd c β v d) (hd : (x == ("__debug__" : Str)) = false := by decide) : EV c k env ρ (.Name x pos) d := by
  intro A s β Q ha hb hs V hQ
  have hg : s.heap.Ns env.globals c.mg := by rw [V.gl]; exact hb.2.g
  exact Name_function_global V.fk kx (loadGlobal_global hg (mg_of hb.1 hb.2.g e) (hQ v s.heap β s.toks (Nx.refl hs) (hr β))) hd
theorem ev_typ {x : Str} {pos : Pos} {T : String} (e : nsIn c.K mainGlobals x = some none) (b : bootBuiltins x = some (.type T)) (n : x ≠ "__name__") (kx : env.kindOf x = some .globalImplicit) (hd : (x == ("__debug__" : Str)) = false := by decide) : EV c k env ρ (.Name x pos) (.typ T) := by
  intro A s β Q ha hb hs V hQ
  exact (GN.typ (c := c) (env := env) e b n kx).run hb V (hQ _ s.heap β s.toks (Nx.refl hs) (.typ T)) hd

/-- over a tuple of the text's own -/
theorem ei_kref {target e : Expr} {a : Addr} {vs : List Value} {n : Nat} {ds : List Dat} (he : EV c k env ρ e (.kref a)) (hk : c.K.lookup a = some (tupO vs n)) (hr : ∀ β, Rds c β vs ds) : EI c k env ρ target e ds := by
  refine ei_one he fun A s β v Q ha hb hs r hQ => ?_
  cases r.inv_kref
  have isl : ∀ (h : Heap), Base c h → h.IsTuple a vs.toArray := fun h hb => ⟨_, hb.1 _ _ hk, rfl, n, rfl⟩
  refine wpAny_pyIter_tuple (isl s.heap hb) (hQ _ (fun i o => o.cls = .type "tuple_iterator" ∧ o.data = .fields #[.ref a, .int i 0]) rfl ⟨rfl, rfl⟩ ?_)
  refine iter_one (n := "tuple_iterator") (by decide) (fun i o h => h.1) (fun A s i d β' Q o ha hb hx hs ho hp hd hQ => ?_) (fun A s β' Q o ha hb hx hs ho hp hQ => ?_) (fun A s i o Q E ho hp hQ => wpAny_pyIter_tupleiter ⟨o, ho, hp⟩ hQ)
  · obtain ⟨v, hv, rv⟩ := (hr β').get hd
    refine wpAny_pyNext_tuple_item ⟨o, ho, hp⟩ (isl s.heap hb) (by simpa using hv) fun h' hit' hsb => ?_
    obtain ⟨o', ho', hp'⟩ := hit'
    exact hQ v h' o' _ hsb ho' hp' rv
  · exact wpAny_pyNext_tuple_end ha.hh ⟨o, ho, hp⟩ (isl s.heap hb) (by simp [(hr β').1]) fun h' hx' => hQ h' _ hx'

local macro_rules | `(tactic| x_close) => `(tactic| (apply $(Lean.mkIdent `hQ) <;> first | assumption | skip))
theorem enum_tuple {prog : Program} {w : World} {A : Around} {h : Heap} {gens : Array GenState} {d : Drawn} {tk : Nat} {os : OsState} {l : Addr} {items : Array Value} {n : Nat}
   (hl : h.get? l = some { cls := .type "tuple", dict := none, data := .seq items n, slots := #[] })
   {Q : Value → Shared → Prop} {E : Value → Shared → Prop}
   (hQ : ∀ a b h' tk', Mem h h' [] [(b, { cls := .type "enumerate", data := .fields #[.none, .bool false, .ref a, rawInt 0, .none, .none] }), (a, { cls := .type "tuple_iterator", data := .fields #[.ref l, .int 0 0] })] → Q (.ref b) ⟨h', gens, d, tk', os⟩) :
   wpAny (model prog w) A (call (.type "enumerate") [.ref l]) Q E ⟨h, gens, d, tk, os⟩ := by
  x_run

theorem mem_kp {h h' : Heap} {news : List (Addr × Obj)} (m : Mem h h' [] news) : Kp h h' := fun b o e => m.keep b o e (by simp [away])

def enumHid (E I a : Addr) (i : Nat) : Hid := [(E, fun o => ∃ old, o = enumO .none I i old), (I, fun o => o.cls = .type "tuple_iterator" ∧ o.data = .fields #[.ref a, .int i 0])]

/-- enumerate over a tuple of the text's own -/
theorem ei_enum_kref {ts : List Expr} {x1 : Nat} {tpos p pos : Pos} {x : Str} {e : Expr} {a : Addr} {vs : List Value} {n : Nat} {ds : List Dat} (g : GN c env x (.type "enumerate")) (he : EV c k env ρ e (.kref a)) (hst : starEach [e] env = (false, eval e env) :: starEach [] env) (hk : c.K.lookup a = some (tupO vs n)) (hr : ∀ β, Rds c β vs ds) (hd : (x == ("__debug__" : Str)) = false := by decide) :
    EI c k env ρ (.Tuple ts x1 tpos) (.Call (.Name x p) [e] [] pos) (ds.zipIdx.map fun q => .tup [.int q.2, q.1]) := by
  intro A s β Q ha hb hs V hQ
  refine wpAny_Call_Name_kw (g.run hb V ?_ hd)
  show wpAny _ _ (callWith pos (.type "enumerate") [] (backTo pos (starEach [e] env)) []) _ _ _
  have he' : EL c k env ρ [e] [.kref a] := .cons he hst .nil
  have st := he'.star pos
  rw [hst] at st ⊢
  refine PySem.callWith_type st (evalArgs_plain ?_)
  have run := he'.run pos A s β (fun vs' s' => wpAny (model c.prog c.w) A (call (.type "enumerate") vs') (fun x s₁ => wpAny (model c.prog c.w) A (pyIter x) Q (fun _ _ => False) s₁) (fun _ _ => False) s') ha hb hs V ?_
  · rw [hst] at run; exact run
  intro vs' h1 β1 t1 n1 r1
  obtain ⟨v, vs'', rfl, r2, r3⟩ := r1.inv_cons
  cases r3.inv_nil
  cases r2.inv_kref
  have isl : ∀ (h : Heap), Base c h → h.IsTuple a vs.toArray := fun h hb => ⟨_, hb.1 _ _ hk, rfl, n, rfl⟩
  have ho : h1.get? a = some (tupO vs n) := (hb.kp n1.kp).1 _ _ hk
  obtain ⟨sh, sg, sd, stk, sos⟩ := s
  refine enum_tuple (items := vs.toArray) ho fun I E h2 t2 m2 => ?_
  have hE := m2.nw _ List.mem_cons_self
  have hI := m2.nw _ (List.mem_cons_of_mem _ List.mem_cons_self)
  have hEI : E ≠ I := by have := m2.ord; simp at this; exact Nat.ne_of_gt this
  refine wpAny_pyIter_enum (e := E) (it := I) (i := 0) (old := .none) hE.1 ?_
  have kp2 := mem_kp m2
  have n2 : Nx β1 h1 β1 h2 := Nx.keep n1.sub kp2
  have fr : ∀ b, h1.get? b = none → sh.get? b = none ∧ β1 b = none := fun b hb0 => by
    constructor
    · cases q : sh.get? b with
      | none => rfl
      | some o => have := n1.kp _ _ q; rw [hb0] at this; cases this
    · cases q : β1 b with
      | none => rfl
      | some o => have := n1.sub _ _ q; rw [hb0] at this; cases this
  refine hQ E (enumHid E I a) [E, I] h2 β1 t2 (n1.trans n2) (fun b hm => ?_) (by simp [hEI]) (fun _ => rfl) (fun q hq => ?_) ⟨fun A s i d β' Q ha hb hx hs had hh hd hQ => ?_, fun A s β' Q ha hb hx hs hh hQ => ?_, fun A s i Q E' hh hQ => ?_⟩
  · rcases List.mem_cons.mp hm with rfl | hm
    · exact fr _ hE.2
    · rw [List.mem_singleton.mp hm]; exact fr _ hI.2
  · rcases List.mem_cons.mp hq with rfl | hq
    · exact ⟨_, hE.1, .none, rfl⟩
    · rw [List.mem_singleton.mp hq]; exact ⟨_, hI.1, rfl, rfl⟩
  · obtain ⟨oE, eE, old, rfl⟩ := hh _ List.mem_cons_self
    obtain ⟨oI, eI, qI⟩ := hh _ (List.mem_cons_of_mem _ List.mem_cons_self)
    rw [List.getElem?_map, Option.map_eq_some_iff] at hd
    obtain ⟨⟨d', j⟩, hj, rfl⟩ := hd
    rw [List.getElem?_zipIdx, Option.map_eq_some_iff] at hj
    obtain ⟨d'', hd'', hj⟩ := hj
    cases hj
    obtain ⟨v, hv, rv⟩ := (hr β').get hd''
    refine next_enum (P := fun h' => h'.IsTupleIter I a (i + 1)) eE hEI (fun A' Q' E' hQ' => draw_tuple ⟨oI, eI, qI⟩ (isl s.heap hb) (by simpa using hv) fun h' hit hsb => hQ' h' hsb hit) fun h3 h4 hs3 hp3 hk4 hE4 ht4 => ⟨_, rfl, ?_⟩
    refine wpAny_letOwnedTupleGo_enum (e := E) (it := I) (i := (i : Int) + 1) (item := v) hE4 fun h5 hE5 hs5 => ?_
    have szE : s.heap.objs.size ≠ E := Nat.ne_of_gt (Heap.lt_size eE)
    have szI : s.heap.objs.size ≠ I := Nat.ne_of_gt (Heap.lt_size eI)
    have none5 : s.heap.get? s.heap.objs.size = none := Heap.get?_none_of_le (Nat.le_refl _)
    have hβn : β' s.heap.objs.size = none := by
      cases q : β' s.heap.objs.size with
      | none => rfl
      | some o => have := hs _ _ q; rw [none5] at this; cases this
    have hk5 : ∀ b o, b ∉ [E, I] → s.heap.get? b = some o → h5.get? b = some o := fun b o hm q => by
      have h1 : b ≠ E := fun z => hm (by rw [z]; exact List.mem_cons_self)
      have h2 : b ≠ I := fun z => hm (by rw [z]; exact List.mem_cons_of_mem _ List.mem_cons_self)
      exact hs5.extBut b o h1 (hk4 b o h1 (hs3.extBut b o h2 q))
    have ht5 : h5.get? s.heap.objs.size = some (tupO [.int i s.toks, v] 0) := hs5.extBut _ _ szE ht4
    have hx5 : Ext β' (fun y => if y = s.heap.objs.size then some (tupO [.int i s.toks, v] 0) else β' y) := fun y o q => by
      by_cases z : y = s.heap.objs.size
      · rw [z, hβn] at q; cases q
      · show (if y = s.heap.objs.size then some (tupO [.int i s.toks, v] 0) else β' y) = some o
        rw [if_neg z]; exact q
    rw [Nat.zero_add] at hQ
    refine hQ _ h5 (fun y => if y = s.heap.objs.size then some (tupO [.int i s.toks, v] 0) else β' y) _ hk5 hx5 (fun y o q => ?_) (fun y o q q0 => ?_) (fun q hq => ?_) ?_
    all_goals dsimp only at *
    · by_cases z : y = s.heap.objs.size
      · have q : (if y = s.heap.objs.size then some (tupO [.int i s.toks, v] 0) else β' y) = some o := q
        rw [if_pos z] at q; cases q; rw [z]; exact ht5
      · have q : (if y = s.heap.objs.size then some (tupO [.int i s.toks, v] 0) else β' y) = some o := q
        rw [if_neg z] at q
        exact hk5 y o (fun hm => by
          rcases List.mem_cons.mp hm with z' | hm
          · rw [z', had E List.mem_cons_self] at q; cases q
          · rw [List.mem_singleton.mp hm, had I (List.mem_cons_of_mem _ List.mem_cons_self)] at q; cases q) (hs y o q)
    · by_cases z : y = s.heap.objs.size
      · rw [z]; exact none5
      · have q : (if y = s.heap.objs.size then some (tupO [.int i s.toks, v] 0) else β' y) = some o := q
        rw [if_neg z, q0] at q; cases q
    · rcases List.mem_cons.mp hq with rfl | hq
      · exact ⟨_, hE5, v, by simp⟩
      · rw [List.mem_singleton.mp hq]
        obtain ⟨o3, e3, q3⟩ := hp3
        exact ⟨o3, hs5.extBut _ _ hEI.symm (hk4 _ _ hEI.symm e3), q3⟩
    · refine .tup (by rw [if_pos rfl]) rfl fun m v' d hv' hd' => ?_
      match m, hv', hd' with
      | 0, hv', hd' => simp at hv' hd'; subst hv'; subst hd'; exact .int _ _
      | 1, hv', hd' => simp at hv' hd'; subst hv'; subst hd'; exact rv.mono hx5
      | m + 2, hv', hd' => simp at hv'
  · obtain ⟨oE, eE, old, rfl⟩ := hh _ List.mem_cons_self
    obtain ⟨oI, eI, qI⟩ := hh _ (List.mem_cons_of_mem _ List.mem_cons_self)
    refine next_enum_end ha.hh eE ⟨oI, eI, qI⟩ (isl s.heap hb) (by simp [(hr β').1]) fun h' hx' => ⟨rfl, hQ h' _ fun b o hm q => hx' b o (fun z => hm (by rw [z]; exact List.mem_cons_of_mem _ List.mem_cons_self)) q⟩
  · obtain ⟨oE, eE, old, rfl⟩ := hh _ List.mem_cons_self
    exact wpAny_pyIter_enum (e := E) (it := I) (i := i) (old := old) eE hQ
end
end Mine

open PySem PySem.W PySem.W.X PyProof.Rows PySem.Calls PySem.Spec
set_option Elab.async false
namespace Mine
set_option maxRecDepth 100000
set_option maxHeartbeats 1000000
set_option linter.unusedVariables false

section
variable {c : Cx} {k : Nat} {env : Env} {ρ : DEnv}

/-- a method of a built-in type, called on data -/
def MC (c : Cx) (k : Nat) (name : Str) (d : Dat) (ds : List Dat) (r : Dat) : Prop := ∃ T id, PlainAttrs T ∧ Slot T name id ∧ typeOf (.builtin id) = pure (.type "method_descriptor") ∧
  (∀ (β : View) (s : Shared) (v : Value), Base c s.heap → Sub β s.heap → Rd c β v d → s.TypeIs v T ∧ ∀ a, v = .ref a → ∃ ob, s.heap.get? a = some ob ∧ ob.dict = none) ∧ FS c k (.builtin id) (d :: ds) r

theorem EL.few {es : List Expr} {ds : List Dat} (h : EL c k env ρ es ds) (pos : Pos) : (backTo pos (starEach es env)).all (fun x => !x.1) = true := by
  induction h with
  | nil => rfl
  | cons _ hst _ ih => rw [hst]; exact ih

theorem ev_meth {o : Expr} {name : Str} {apos pos : Pos} {args : List Expr} {d : Dat} {ds : List Dat} {r : Dat} (ho : EV c k env ρ o d) (ha : EL c k env ρ args ds) (hm : MC c k name d ds r)
    (hbase : attributeBase o name env (eval o env) = eval o env := by rfl) (hline : (apos.endLine == pos.line) = true := by rfl) (hn : args.length < 30 := by decide) : EV c k env ρ (.Call (.Attribute o name apos) args [] pos) r := by
  intro A s β Q hA hb hs V hQ
  refine wpAny_Call_method_lateS hbase ?_ hline (ho A s β _ hA hb hs V fun v h1 β1 t1 n1 r1 => ?_)
  · rw [ha.few pos]
    simp only [Bool.true_and, Bool.and_eq_true, decide_eq_true_eq]
    exact ⟨rfl, by simpa using hn⟩
  obtain ⟨T, id, pa, sl, ty, hT, hf⟩ := hm
  obtain ⟨hT1, hT2⟩ := hT β1 { s with heap := h1, toks := t1 } v (hb.kp n1.kp) n1.sub r1
  refine ⟨T, id, pa, sl, ty, hT1, hT2, Calls.callWith_builtin (ha.star pos) ?_⟩
  have run := ha.run pos A { s with heap := h1, toks := t1 } β1 (fun vs s' => wpAny (model c.prog c.w) A (call (.builtin id) (v :: vs)) Q (fun _ _ => False) s') hA (hb.kp n1.kp) n1.sub (V.nx n1) fun vs h2 β2 t2 n2 r2 =>
    hf A _ β2 (v :: vs) Q hA ((hb.kp n1.kp).kp n2.kp) n2.sub (.cons (r1.mono n2.ext) r2) fun v' h3 β3 t3 n3 r3 => hQ v' h3 β3 t3 ((n1.trans n2).trans n3) r3
  cases ha with
  | nil => exact evalArgs_nil3 (hf A _ β1 [v] Q hA (hb.kp n1.kp) n1.sub (.cons r1 .nil) fun v' h3 β3 t3 n3 r3 => hQ v' h3 β3 t3 (n1.trans n3) r3)
  | cons he hst hr =>
    rw [hst] at run ⊢
    exact evalArgs_plain run

theorem rds_strs {β : View} : ∀ {vs : List Value} {ys : List Str}, Rds c β vs (ys.map Dat.str) → ∃ l : List (Str × Tok), vs = strValues l ∧ l.map (·.1) = ys
  | vs, [], r => by cases r.inv_nil; exact ⟨[], rfl, rfl⟩
  | vs, y :: ys, r => by
    obtain ⟨v, vs', rfl, r1, r2⟩ := r.inv_cons
    obtain ⟨t, rfl⟩ := r1.inv_str
    obtain ⟨l, e, q⟩ := rds_strs r2
    exact ⟨(y, t) :: l, by rw [e]; rfl, by rw [List.map_cons, q]⟩

theorem mc_join {x : Str} {ys : List Str} (hok : JoinOk x ys = true) : MC c k "join" (.str x) [.lst (ys.map Dat.str)] (.str (Txt.join x ys)) := by
  refine ⟨"str", "str.join", F.plainAttrs_str, F.slot_str_join, F.type_str_join, fun β s v hb hs r => ?_, fun A s β vs Q ha hb hs r hQ => ?_⟩
  · obtain ⟨t, rfl⟩ := r.inv_str
    exact ⟨typeIs_str _ _ _, fun _ e => nomatch e⟩
  · obtain ⟨v, vs', rfl, r1, r2⟩ := r.inv_cons
    obtain ⟨v2, vs'', rfl, r3, r4⟩ := r2.inv_cons
    cases r4.inv_nil
    obtain ⟨t, rfl⟩ := r1.inv_str
    obtain ⟨a, ws, n, rfl, hβ, rs⟩ := r3.inv_lst
    obtain ⟨l, rfl, hl⟩ := rds_strs rs
    exact SC.join (D := a) (l := l) ⟨_, hs _ _ hβ, rfl, n, rfl⟩ hl hok fun t' k' => hQ _ s.heap β k' (Nx.refl hs) (.str _ _)

theorem ev_mul {l r : Expr} {pos : Pos} {a b : Int} (hl : EV c k env ρ l (.int a)) (hr : EV c k env ρ r (.int b)) (hm : IntMulOk a b) : EV c k env ρ (.BinOp l .Mult r pos) (.int (a * b)) := ev_bin hl hr fun _ _ _ _ _ _ _ hQ => PyProof.Rows.mul_int (hQ _ _) hm
theorem ev_fdiv {l r : Expr} {pos : Pos} {a b : Int} (hl : EV c k env ρ l (.int a)) (hr : EV c k env ρ r (.int b)) (h0 : b ≠ 0) (hp : Builtin.divisionGoesByPylong a b = false) : EV c k env ρ (.BinOp l .FloorDiv r pos) (.int (a.fdiv b)) := ev_bin hl hr fun _ _ _ _ _ _ _ hQ => floordiv_int h0 (hQ _ _) (.inl hp)
theorem ev_neg {x : Expr} {pos : Pos} {a : Int} (hx : EV c k env ρ x (.int a)) : EV c k env ρ (.UnaryOp .USub x pos) (.int (-a)) := by
  intro A s β Q ha hb hs V hQ
  refine UnaryOp_ (hx A s β _ ha hb hs V fun v h1 β1 t1 n1 r1 => ?_)
  obtain ⟨t, rfl⟩ := r1.inv_int
  exact PyProof.Rows.neg_int (hQ _ h1 β1 _ n1 (.int _ _))
end
end Mine

open PySem PySem.W PySem.W.X PyProof.Rows PySem.Calls PySem.Spec
set_option Elab.async false
namespace Mine
set_option maxRecDepth 100000
set_option maxHeartbeats 1000000
set_option linter.unusedVariables false

/-- the names of the one are known in the other -/
def Fg (ρ : DEnv) : DEnv → Prop
  | [] => True
  | (x, d) :: r => ρ.lookup x = some d ∧ Fg ρ r
theorem Fg.at {ρ : DEnv} : ∀ {r : DEnv}, Fg ρ r → ∀ x d, r.lookup x = some d → ρ.lookup x = some d
  | [], _, _, _, h => by cases h
  | (y, e) :: r, hf, x, d, h => by
    rw [List.lookup_cons] at h
    split at h
    · rename_i q; cases h; rw [eq_of_beq q]; exact hf.1
    · exact hf.2.at x d h
theorem St.forget {c : Cx} {env : Env} {β₀ : View} {h₀ : Heap} {ρ ρ' σ : DEnv} {η : Hid} {s₀ s' : Shared} (S : St c env β₀ h₀ ρ σ η s₀ s') (h : Fg ρ ρ') : St c env β₀ h₀ ρ' σ η s₀ s' := by
  obtain ⟨h', t, β, own, rfl, S⟩ := S
  exact ⟨h', t, β, own, rfl, S.forget h.at⟩
theorem Rds.of2 {c : Cx} {β : View} {v1 v2 : Value} {d1 d2 : Dat} (a : Rd c β v1 d1) (b : Rd c β v2 d2) : Rds c β [v1, v2] [d1, d2] := .cons a (.cons b .nil)

/-- what filemode says -/
def fmTabs : List (List (Int × Str)) := [[(40960, "l"), (49152, "s"), (32768, "-"), (24576, "b"), (16384, "d"), (8192, "c"), (4096, "p")], [(256, "r")], [(128, "w")], [(2112, "s"), (2048, "S"), (64, "x")], [(32, "r")], [(16, "w")], [(1032, "s"), (1024, "S"), (8, "x")], [(4, "r")], [(2, "w")], [(513, "t"), (512, "T"), (1, "x")]]
def fmHit (i : Nat) (m : Int) (p : Int × Str) : Bool := if i = 0 then Builtin.bitAnd m 61440 == p.1 else Builtin.bitAnd m p.1 == p.1
def fmPick (i : Nat) (m : Int) (t : List (Int × Str)) : Str := match t.find? (fmHit i m) with
  | some p => p.2
  | none => if i = 0 then "?" else "-"
def fmChars (m : Int) : List Str := fmTabs.zipIdx.map fun q => fmPick q.2 m q.1
def fm (m : Int) : Str := Txt.join "" (fmChars m)
theorem fmPick_len (i : Nat) (m : Int) (t : List (Int × Str)) (h : ∀ p ∈ t, p.2.length ≤ 1) : (fmPick i m t).length ≤ 1 := by
  unfold fmPick
  split
  · rename_i p hp; exact h p (List.mem_of_find?_eq_some hp)
  · split <;> decide
theorem fm_join (m : Int) : JoinOk "" (fmChars m) = true := by
  unfold JoinOk
  rw [Bool.not_eq_true']
  refine PySem.StrLaws.joinFits (B := 1) (fun y hy => ?_) ?_
  · unfold fmChars at hy
    obtain ⟨⟨t, i⟩, hq, rfl⟩ := List.mem_map.mp hy
    refine fmPick_len i m t fun p hp => ?_
    have ht : t ∈ fmTabs := by
      obtain ⟨hi, e⟩ := List.mem_zipIdx' hq
      rw [e]; exact List.getElem_mem _
    have : ∀ t ∈ fmTabs, ∀ p ∈ t, p.2.length ≤ 1 := by decide
    exact this t ht p hp
  · show 10 * 1 + 10 * 0 ≤ 16777216
    decide
theorem fmChars_len (m : Int) : (fmChars m).length = 10 := rfl

/-- a table of filemode, as it lies in the heap -/
def TabOk (c : Cx) (T : Addr) (as : List Addr) (tb : List (Int × Str)) : Prop := (∃ vs n, c.K.lookup T = some (tupO vs n) ∧ ∀ β, Rds c β vs (as.map Dat.kref)) ∧ as.length = tb.length ∧ ∀ (j : Nat) a p, as[j]? = some a → tb[j]? = some p → IsT c (.kref a) [.int p.1, .str p.2]
theorem TabOk.mk {c : Cx} {T : Addr} {vs : List Value} {n : Nat} {as : List Addr} {tb : List (Int × Str)} (h1 : c.K.lookup T = some (tupO vs n)) (h2 : ∀ β, Rds c β vs (as.map Dat.kref)) (h3 : as.length = tb.length) (h4 : ∀ (j : Nat) a p, as[j]? = some a → tb[j]? = some p → IsT c (.kref a) [.int p.1, .str p.2]) : TabOk c T as tb := ⟨⟨vs, n, h1, h2⟩, h3, h4⟩
theorem tab_nil {c : Cx} : ∀ (j : Nat) a p, ([] : List Addr)[j]? = some a → ([] : List (Int × Str))[j]? = some p → IsT c (.kref a) [.int p.1, .str p.2] := fun j a p h => by simp at h
theorem tab_cons {c : Cx} {a0 : Addr} {as : List Addr} {p0 : Int × Str} {tb : List (Int × Str)} (h : IsT c (.kref a0) [.int p0.1, .str p0.2]) (hr : ∀ (j : Nat) a p, as[j]? = some a → tb[j]? = some p → IsT c (.kref a) [.int p.1, .str p.2]) : ∀ (j : Nat) a p, (a0 :: as)[j]? = some a → (p0 :: tb)[j]? = some p → IsT c (.kref a) [.int p.1, .str p.2] := fun j a p h1 h2 => by
  cases j with
  | zero => simp at h1 h2; subst h1; subst h2; exact h
  | succ j => exact hr j a p (by simpa using h1) (by simpa using h2)
end Mine

open PySem PySem.W PySem.W.X PyProof.Rows PySem.Calls PySem.Spec
set_option Elab.async false
namespace Mine
set_option maxRecDepth 100000
set_option maxHeartbeats 1000000
set_option linter.unusedVariables false

section
variable {c : Cx} {k : Nat} {env : Env} {ρ : DEnv}

/-- the datum is a dict of these -/
def IsD {K : Type} [DecidableEq K] (c : Cx) (knd : KeyKind c.prog c.w K) (d : Dat) (l : List (K × Dat)) : Prop := ∀ (β : View) (h : Heap) (v : Value), Base c h → Sub β h → Rd c β v d →
  ∃ a kvs, v = .ref a ∧ (a == sysModules) = false ∧ h.DictOf knd a kvs ∧ kvs.map (·.1) = l.map (·.1) ∧ ∀ (i : Nat) v d, kvs[i]? = some v → l[i]? = some d → Rd c β v.2 d.2
theorem is_dS {l : List (Str × Dat)} : IsD c (strKind c.prog c.w) (.dS l) l := fun β h v hb hs r => by
  cases r with
  | dS z e q m rs => exact ⟨_, _, rfl, z, Heap.dictOf_iff.mpr ⟨_, hs _ _ e, q⟩, m, rs⟩
theorem is_kd {K : Type} [DecidableEq K] {knd : KeyKind c.prog c.w K} {a : Addr} {o : Obj} {kvs : List (K × Value)} {l : List (K × Dat)} (hk : c.K.lookup a = some o) (hd : o.IsDictOf knd kvs) (hz : (a == sysModules) = false) (hm : kvs.map (·.1) = l.map (·.1)) (hr : ∀ β (i : Nat) v d, kvs[i]? = some v → l[i]? = some d → Rd c β v.2 d.2) : IsD c knd (.kref a) l := fun β h v hb hs r => by
  cases r.inv_kref
  exact ⟨a, kvs, rfl, hz, Heap.dictOf_iff.mpr ⟨_, hb.1 _ _ hk, hd⟩, hm, hr β⟩

theorem valueAt_rd {K : Type} [DecidableEq K] {β : View} {key : K} : ∀ {kvs : List (K × Value)} {l : List (K × Dat)}, kvs.map (·.1) = l.map (·.1) → (∀ (i : Nat) v d, kvs[i]? = some v → l[i]? = some d → Rd c β v.2 d.2) →
    match l.lookup key with | some d => ∃ v, valueAt kvs key = some v ∧ Rd c β v d | none => valueAt kvs key = none
  | [], [], _, _ => rfl
  | (x, v) :: kvs, (y, d) :: l, hm, hr => by
    simp only [List.map_cons, List.cons.injEq] at hm
    obtain ⟨rfl, hm⟩ := hm
    have ih := valueAt_rd (key := key) hm fun i v d h1 h2 => hr (i + 1) v d (by simpa using h1) (by simpa using h2)
    rw [List.lookup_cons]
    unfold valueAt at ih ⊢
    by_cases e : x = key
    · subst e
      simp only [beq_self_eq_true]
      exact ⟨v, by simp, hr 0 _ _ rfl rfl⟩
    · have e1 : (key == x) = false := by simpa using fun q : key = x => e q.symm
      simp only [e1]
      rw [List.find?_cons]
      simp only [e, decide_false]
      exact ih
  | [], _ :: _, hm, _ => by simp at hm
  | _ :: _, [], hm, _ => by simp at hm

/-- the datum is this key -/
def KeyIs {K : Type} [DecidableEq K] (c : Cx) (knd : KeyKind c.prog c.w K) (d : Dat) (key : K) : Prop := ∀ β v, Rd c β v d → knd.is key v = true
theorem key_int {i : Int} : KeyIs c (intKind c.prog c.w) (.int i) i := fun β v r => by obtain ⟨t, rfl⟩ := r.inv_int; exact intKind_is _ _ _ _
theorem key_str {x : Str} : KeyIs c (strKind c.prog c.w) (.str x) x := fun β v r => by obtain ⟨t, rfl⟩ := r.inv_str; exact strKind_is _ _ _ _

theorem dat_lookup {K : Type} [DecidableEq K] {β : View} {key : K} {kvs : List (K × Value)} {l : List (K × Dat)} {v0 : Value} {d0 : Dat} (hm : kvs.map (·.1) = l.map (·.1)) (hr : ∀ (i : Nat) v d, kvs[i]? = some v → l[i]? = some d → Rd c β v.2 d.2) (r0 : Rd c β v0 d0) : Rd c β ((valueAt kvs key).getD v0) ((l.lookup key).getD d0) := by
  have := valueAt_rd (c := c) (key := key) hm hr
  cases q : l.lookup key with
  | none => rw [q] at this; dsimp only at this; rw [this]; exact r0
  | some d => rw [q] at this; obtain ⟨v, e, r⟩ := this; rw [e]; exact r

theorem mc_get {K : Type} [DecidableEq K] {knd : KeyKind c.prog c.w K} {d kd dflt : Dat} {l : List (K × Dat)} {key : K} (hd : IsD c knd d l) (hk : KeyIs c knd kd key) : MC c k "get" d [kd, dflt] ((l.lookup key).getD dflt) := by
  refine ⟨"dict", "dict.get", F.plainAttrs_dict, F.slot_dict_get, F.type_dict_get, fun β s v hb hs r => ?_, fun A s β vs Q ha hb hs r hQ => ?_⟩
  · obtain ⟨a, kvs, rfl, z, dO, _, _⟩ := hd β s.heap v hb hs r
    exact ⟨dO.mapOf.typeIs, dO.mapOf.noDict⟩
  · obtain ⟨v, vs', rfl, r1, r2⟩ := r.inv_cons
    obtain ⟨v2, vs'', rfl, r3, r4⟩ := r2.inv_cons
    obtain ⟨v3, vs''', rfl, r5, r6⟩ := r4.inv_cons
    cases r6.inv_nil
    obtain ⟨a, kvs, rfl, z, dO, hm, hr⟩ := hd β s.heap v hb hs r1
    exact call_meetsIn F.slot_dict_get dO.mapOf.typeIs F.entry_dict_get (F.args_dict_get_3 _ _ _) (meets_dict_get_default knd a (hk β v2 r3) z v3) ⟨_, dO.mapOf, hQ _ s.heap β _ (Nx.refl hs) (dat_lookup hm hr r5)⟩

theorem co_in {K : Type} [DecidableEq K] {knd : KeyKind c.prog c.w K} {d kd : Dat} {l : List (K × Dat)} {key : K} (hd : IsD c knd d l) (hk : KeyIs c knd kd key) : CO c k .In kd d (l.lookup key).isSome := by
  intro A s β v₁ v₂ Q ha hb hs r1 r2 hQ
  obtain ⟨a, kvs, rfl, z, dO, hm, hr⟩ := hd β s.heap v₂ hb hs r2
  refine wpAny_in_of (hk β v₁ r1) z dO.mapOf ?_
  have e : (valueAt kvs key).isSome = (l.lookup key).isSome := by
    have := valueAt_rd (c := c) (key := key) hm hr
    cases q : l.lookup key with
    | none => rw [q] at this; dsimp only at this; rw [this]; rfl
    | some d => rw [q] at this; obtain ⟨v, e, r⟩ := this; rw [e]; rfl
  rw [e]; exact hQ s.heap _ (Kp.refl _)
theorem co_notin {K : Type} [DecidableEq K] {knd : KeyKind c.prog c.w K} {d kd : Dat} {l : List (K × Dat)} {key : K} (hd : IsD c knd d l) (hk : KeyIs c knd kd key) : CO c k .NotIn kd d (!(l.lookup key).isSome) := by
  intro A s β v₁ v₂ Q ha hb hs r1 r2 hQ
  obtain ⟨a, kvs, rfl, z, dO, hm, hr⟩ := hd β s.heap v₂ hb hs r2
  refine wpAny_notIn_of (hk β v₁ r1) z dO.mapOf ?_
  have e : (valueAt kvs key).isSome = (l.lookup key).isSome := by
    have := valueAt_rd (c := c) (key := key) hm hr
    cases q : l.lookup key with
    | none => rw [q] at this; dsimp only at this; rw [this]; rfl
    | some d => rw [q] at this; obtain ⟨v, e, r⟩ := this; rw [e]; rfl
  rw [e]; exact hQ s.heap _ (Kp.refl _)

theorem seq_at {i : Int} {n : Nat} (h0 : 0 ≤ i) (h1 : i.toNat < n) : seqIndex? i n = some i.toNat := by
  unfold seqIndex?
  have e : ¬ i < 0 := by omega
  have e2 : i < (n : Int) := by omega
  simp [e, h0, e2]

/-- d[i] on data -/
def IT (c : Cx) (k : Nat) (d i r : Dat) : Prop := ∃ T id, typeLookup (.type T) "__getitem__" = pure (some (.builtin id)) ∧ ∀ (A : Around) (s : Shared) (β : View) (v vi : Value) (Q : Value → Shared → Prop), AOk k A → Base c s.heap → Sub β s.heap → Rd c β v d → Rd c β vi i →
  (∀ w h' β' t, Nx β s.heap β' h' → Rd c β' w r → Q w { s with heap := h', toks := t }) → s.TypeIs v T ∧ wpAny (model c.prog c.w) A (getItem v vi) Q (fun _ _ => False) s

theorem tail_any {prog : Program} {w : World} {A : Around} {E : Value → Shared → Prop} {s : Shared} {value slice : Expr} {o i : Value} {T id : String} {Q : Value → Shared → Prop} (hT : s.TypeIs o T)
    (hl : typeLookup (.type T) "__getitem__" = pure (some (.builtin id))) (h : wpAny (model prog w) A (getItem o i) Q E s) : wpAny (model prog w) A (subscriptTail value slice o i) Q E s := by
  unfold subscriptTail
  refine wpAny_bind ?_
  rw [getitemInPython_of_ne hT.not_modules]
  refine wpAny_bind (wpAny_specialOf hT hl ?_)
  have fin : wpAny (model prog w) A (subscripted slice false o i) (fun r s₃ => wpAny (model prog w) A (letTemporaryGo value o r >>= fun _ => pure r) Q E s₃) E s := by
    unfold subscripted
    split
    · exact wpAny_operating (wpAny_mono h (fun r s₃ h₃ => wpAny_bind (wpAny_letTemporaryGo (wpAny_pure h₃))) fun _ _ x => x)
    · rename_i q; cases q
    · exact wpAny_operating (wpAny_mono h (fun r s₃ h₃ => wpAny_bind (wpAny_letTemporaryGo (wpAny_pure h₃))) fun _ _ x => x)
  first
    | exact wpAny_pure (wpAny_bind fin)
    | exact wpAny_bind (wpAny_pure (wpAny_bind fin))
    | exact wpAny_bind fin

theorem ev_item {value slice : Expr} {pos : Pos} {d i r : Dat} (hv : EV c k env ρ value d) (hi : EV c k env ρ slice i) (ht : IT c k d i r) : EV c k env ρ (.Subscript value slice pos) r := by
  intro A s β Q ha hb hs V hQ
  refine Subscript_ (hv A s β _ ha hb hs V fun v h1 β1 t1 n1 r1 => hi A _ β1 _ ha (hb.kp n1.kp) n1.sub (V.nx n1) fun vi h2 β2 t2 n2 r2 => ?_)
  obtain ⟨T, id, hl, hg⟩ := ht
  obtain ⟨hT, hg⟩ := hg A { s with heap := h2, toks := t2 } β2 v vi Q ha ((hb.kp n1.kp).kp n2.kp) n2.sub (r1.mono n2.ext) r2 fun w h3 β3 t3 n3 r3 => hQ w h3 β3 t3 ((n1.trans n2).trans n3) r3
  exact tail_any hT hl hg

theorem it_list {ds : List Dat} {i : Int} {d : Dat} (h0 : 0 ≤ i) (h1 : i < 2 ^ 63) (hd : ds[i.toNat]? = some d) : IT c k (.lst ds) (.int i) d := by
  refine ⟨"list", _, list_getitem_lookup, fun A s β v vi Q ha hb hs r ri hQ => ?_⟩
  obtain ⟨a, vs, n, rfl, hβ, rs⟩ := r.inv_lst
  obtain ⟨t, rfl⟩ := ri.inv_int
  obtain ⟨w, hw, rw'⟩ := rs.get hd
  have hl : s.heap.IsList a vs.toArray := ⟨_, hs _ _ hβ, rfl, n, rfl⟩
  exact ⟨hl.typeIs, getItem_listL hl h0 h1 hw (hQ w s.heap β s.toks (Nx.refl hs) rw')⟩
theorem it_tuple {ds : List Dat} {i : Int} {d : Dat} (h0 : 0 ≤ i) (h1 : i < 2 ^ 63) (hd : ds[i.toNat]? = some d) : IT c k (.tup ds) (.int i) d := by
  refine ⟨"tuple", _, F.slot_tuple_getitem.lookup, fun A s β v vi Q ha hb hs r ri hQ => ?_⟩
  obtain ⟨a, vs, n, rfl, hβ, rs⟩ := r.inv_tup
  obtain ⟨t, rfl⟩ := ri.inv_int
  obtain ⟨w, hw, rw'⟩ := rs.get hd
  have hl : s.heap.IsTuple a vs.toArray := ⟨_, hs _ _ hβ, rfl, n, rfl⟩
  have hlt : i.toNat < vs.length := (List.getElem?_eq_some_iff.mp hw).1
  refine ⟨hl.typeIs, PyProof.Rows.getItem_tuple (items := vs.toArray) (j := i.toNat) ⟨_, hs _ _ hβ, rfl, n, rfl⟩ (by omega) h1 ?_ (by simpa using hw) (hQ w s.heap β s.toks (Nx.refl hs) rw')⟩
  rw [List.size_toArray]
  exact seq_at h0 hlt
theorem it_str {x : Str} {i : Int} {ch : Nat} (h0 : 0 ≤ i) (h1 : i < 2 ^ 63) (hd : x.cps[i.toNat]? = some ch) : IT c k (.str x) (.int i) (.str ⟨#[ch]⟩) := by
  refine ⟨"str", _, F.slot_str_getitem.lookup, fun A s β v vi Q ha hb hs r ri hQ => ?_⟩
  obtain ⟨t, rfl⟩ := r.inv_str
  obtain ⟨u, rfl⟩ := ri.inv_int
  refine ⟨typeIs_str _ _ _, PyProof.Rows.getItem_str (c := ch) ?_ ?_ (hQ _ s.heap β _ (Nx.refl hs) (.str _ _))⟩
  · simp; omega
  · have hlt : i.toNat < x.cps.size := (Array.getElem?_eq_some_iff.mp hd).1
    rw [seq_at h0 (show i.toNat < x.length from hlt)]
    exact hd
theorem it_dict {K : Type} [DecidableEq K] {knd : KeyKind c.prog c.w K} {d kd r : Dat} {l : List (K × Dat)} {key : K} (hd : IsD c knd d l) (hk : KeyIs c knd kd key) (hr : l.lookup key = some r) : IT c k d kd r := by
  refine ⟨"dict", _, slot_dict_getitem.lookup, fun A s β v vi Q ha hb hs r1 r2 hQ => ?_⟩
  obtain ⟨a, kvs, rfl, z, dO, hm, hrs⟩ := hd β s.heap v hb hs r1
  have := valueAt_rd (c := c) (key := key) hm hrs
  rw [hr] at this
  obtain ⟨w, e, rw'⟩ := this
  exact ⟨dO.mapOf.typeIs, wpAny_getItem_of (hk β vi r2) dO.mapOf e (hQ w s.heap β _ (Nx.refl hs) rw')⟩
end
end Mine

open PySem PySem.W PySem.W.X PyProof.Rows PySem.Calls PySem.Spec
set_option Elab.async false
namespace Mine
set_option maxRecDepth 100000
set_option maxHeartbeats 1000000
set_option linter.unusedVariables false

theorem band_nat (a b : Nat) : Builtin.bitAnd (a : Int) (b : Int) = ((a &&& b : Nat) : Int) := by rw [bitAnd_pp (by omega) (by omega)]; simp
theorem and_or_nat (a : Nat) : ∀ b : Nat, (a &&& b) + (a ||| b) = a + b := by
  induction a using Nat.strongRecOn with
  | ind a ih =>
    intro b
    by_cases h0 : a = 0
    · subst h0; simp
    · have ih' := ih (a / 2) (by omega) (b / 2)
      rw [← Nat.and_div_two, ← Nat.or_div_two] at ih'
      have h1 := @Nat.and_mod_two_eq_one a b
      have h2 := @Nat.or_mod_two_eq_one a b
      have ha := Nat.mod_two_eq_zero_or_one a
      have hb := Nat.mod_two_eq_zero_or_one b
      have hc := Nat.mod_two_eq_zero_or_one (a &&& b)
      have hd := Nat.mod_two_eq_zero_or_one (a ||| b)
      omega
theorem and_xor_nat (a : Nat) : ∀ b : Nat, 2 * (a &&& b) + (a ^^^ b) = a + b := by
  induction a using Nat.strongRecOn with
  | ind a ih =>
    intro b
    by_cases h0 : a = 0
    · subst h0; simp
    · have ih' := ih (a / 2) (by omega) (b / 2)
      rw [← Nat.and_div_two, ← Nat.xor_div_two] at ih'
      have h1 := @Nat.and_mod_two_eq_one a b
      have h2 := @Nat.xor_mod_two_eq_one a b
      have ha := Nat.mod_two_eq_zero_or_one a
      have hb := Nat.mod_two_eq_zero_or_one b
      have hc := Nat.mod_two_eq_zero_or_one (a &&& b)
      have hd := Nat.mod_two_eq_zero_or_one (a ^^^ b)
      omega
theorem bor_nat (a b : Nat) : Builtin.bitOr (a : Int) (b : Int) = ((a ||| b : Nat) : Int) := by
  rw [bitOr_and, band_nat]; have := and_or_nat a b; omega
theorem bxor_nat (a b : Nat) : Builtin.bitXor (a : Int) (b : Int) = ((a ^^^ b : Nat) : Int) := by
  have e : Builtin.bitXor (a : Int) (b : Int) = Builtin.bitOr (a : Int) (b : Int) - Builtin.bitAnd (a : Int) (b : Int) := rfl
  rw [e, bor_nat, band_nat]; have := and_or_nat a b; have := and_xor_nat a b; omega
theorem fdiv_nat (a b : Nat) : (a : Int).fdiv (b : Int) = ((a / b : Nat) : Int) := by
  rw [Int.fdiv_eq_ediv_of_nonneg _ (by omega)]; rfl
theorem fmod_nat (a b : Nat) : (a : Int).fmod (b : Int) = ((a % b : Nat) : Int) := by
  rw [Int.fmod_eq_emod_of_nonneg _ (by omega)]; rfl

/-- what is left of flags from a place on -/
def rem (f i : Nat) : Nat := f / 2 ^ i * 2 ^ i
theorem rem_bit (f i j : Nat) : (rem f i).testBit j = (decide (i ≤ j) && f.testBit j) := by
  unfold rem
  rw [Nat.testBit_mul_two_pow, Nat.testBit_div_two_pow]
  by_cases h : i ≤ j
  · simp [h]
  · simp [h]
theorem rem_and (f i : Nat) : rem f i &&& 2 ^ i = if f.testBit i then 2 ^ i else 0 := by
  apply Nat.eq_of_testBit_eq
  intro j
  rw [Nat.testBit_and, rem_bit, Nat.testBit_two_pow]
  by_cases h : i = j
  · subst h; cases f.testBit i <;> simp
  · cases f.testBit i <;> simp [h, Nat.testBit_two_pow]
theorem rem_xor {f i : Nat} (h : f.testBit i = true) : rem f i ^^^ 2 ^ i = rem f (i + 1) := by
  apply Nat.eq_of_testBit_eq
  intro j
  rw [Nat.testBit_xor, rem_bit, rem_bit, Nat.testBit_two_pow]
  by_cases e : i = j
  · subst e; simp [h]
  · by_cases l : i ≤ j
    · have : i + 1 ≤ j := by omega
      simp [e, l, this]
    · have : ¬ i + 1 ≤ j := by omega
      simp [e, l, this]
theorem rem_no {f i : Nat} (h : f.testBit i = false) : rem f (i + 1) = rem f i := by
  apply Nat.eq_of_testBit_eq
  intro j
  rw [rem_bit, rem_bit]
  by_cases e : i = j
  · subst e; simp [h]
  · by_cases l : i ≤ j
    · have : i + 1 ≤ j := by omega
      simp [l, this]
    · have : ¬ i + 1 ≤ j := by omega
      simp [l, this]
theorem rem_zero (f : Nat) : rem f 0 = f := by simp [rem]
theorem rem_eq_zero {f i : Nat} : rem f i = 0 ↔ f < 2 ^ i := by
  unfold rem
  rw [Nat.mul_eq_zero, Nat.div_eq_zero_iff]
  have := Nat.two_pow_pos i
  omega

def cfn : List (Int × Str) := [(1, "OPTIMIZED"), (2, "NEWLOCALS"), (4, "VARARGS"), (8, "VARKEYWORDS"), (16, "NESTED"), (32, "GENERATOR"), (64, "NOFREE"), (128, "COROUTINE"), (256, "ITERABLE_COROUTINE"), (512, "ASYNC_GENERATOR")]
def flagNm (i : Nat) : Str := (cfn.lookup ((2 ^ i : Nat) : Int)).getD (baseText "0x" 16 ((2 ^ i : Nat) : Int))
def nmsTo (f i : Nat) : List Str := ((List.range i).filter f.testBit).map flagNm
def pfl (f : Nat) : List Str := if f = 0 then ["0x0"] else nmsTo f 16
def pf (f : Nat) : Str := Txt.join ", " (pfl f)
theorem nmsTo_succ (f i : Nat) : nmsTo f (i + 1) = if f.testBit i then nmsTo f i ++ [flagNm i] else nmsTo f i := by
  unfold nmsTo
  rw [List.range_succ, List.filter_append, List.map_append]
  cases h : f.testBit i <;> simp [h]
theorem nmsTo_len (f i : Nat) : (nmsTo f i).length ≤ i := by
  unfold nmsTo
  rw [List.length_map]
  exact Nat.le_trans (List.length_filter_le _ _) (by simp)
theorem nmsTo_end {f i : Nat} (h : f < 2 ^ (i + 1)) : ∀ n, nmsTo f (i + 1 + n) = nmsTo f (i + 1) := by
  intro n
  induction n with
  | zero => rfl
  | succ n ih =>
    rw [← Nat.add_assoc, nmsTo_succ, ih]
    have : f.testBit (i + 1 + n) = false := Nat.testBit_lt_two_pow (Nat.lt_of_lt_of_le h (Nat.pow_le_pow_right (by omega) (by omega)))
    rw [this]; rfl
theorem flagNm_len : ∀ i, i < 32 → (flagNm i).length ≤ 20 := by decide +kernel
theorem pf_join {f : Nat} (h : f < 65536) : JoinOk ", " (pfl f) = true := by
  unfold JoinOk
  rw [Bool.not_eq_true']
  refine PySem.StrLaws.joinFits (B := 20) (fun y hy => ?_) ?_
  · unfold pfl at hy
    split at hy
    · simp at hy; subst hy; decide
    · unfold nmsTo at hy
      obtain ⟨i, hi, rfl⟩ := List.mem_map.mp hy
      exact flagNm_len i (by have := List.mem_range.mp (List.mem_filter.mp hi).1; omega)
  · have hl : (pfl f).length ≤ 16 := by
      unfold pfl; split
      · decide
      · exact nmsTo_len f 16
    have h2 : (", " : Str).length = 2 := by decide
    rw [h2]; omega
theorem tab_bit {f : Nat} (h0 : f ≠ 0) : f.testBit f.log2 = true := by
  have := Nat.testBit_log2 h0
  exact this
end Mine

open PySem PySem.W PySem.W.X PyProof.Rows PySem.Calls PySem.Spec
set_option Elab.async false
namespace Mine
set_option maxRecDepth 100000
set_option maxHeartbeats 1000000
set_option linter.unusedVariables false

/-- the entries of a dict with ints for keys -/
inductive KD (c : Cx) : List DictEntry → List (Int × Dat) → Prop
  | nil : KD c [] []
  | cons {k : Int} {t : Tok} {v : Value} {d : Dat} {h : Int} {es : List DictEntry} {l : List (Int × Dat)} : h = hashInt k → (∀ β, Rd c β v d) → KD c es l → KD c (⟨h, .int k t, v⟩ :: es) ((k, d) :: l)

section
variable {c : Cx} {k : Nat} {env : Env} {ρ : DEnv}
theorem KD.pairs {es : List DictEntry} {l : List (Int × Dat)} (h : KD c es l) : ∃ kvs, (∀ e ∈ es, ∃ k, (intKind c.prog c.w).is k e.key = true ∧ e.hash = (intKind c.prog c.w).hash k) ∧ Pairs (intKind c.prog c.w) es kvs ∧ kvs.map (·.1) = l.map (·.1) ∧ ∀ β (i : Nat) v d, kvs[i]? = some v → l[i]? = some d → Rd c β v.2 d.2 := by
  induction h with
  | nil => exact ⟨[], (fun e h => (List.not_mem_nil h).elim), .nil, rfl, (fun β i v d h => by simp at h)⟩
  | @cons k t v d hh es l e r _ ih =>
    obtain ⟨kvs, h1, h2, h3, h4⟩ := ih
    refine ⟨(k, v) :: kvs, fun e' he => ?_, .cons (intKind_is _ _ _ _) rfl h2, by simp [h3], fun β i v' d' q1 q2 => ?_⟩
    · rcases List.mem_cons.mp he with rfl | he
      · exact ⟨k, intKind_is _ _ _ _, e⟩
      · exact h1 e' he
    · cases i with
      | zero => simp at q1 q2; subst q1; subst q2; exact r β
      | succ i => exact h4 β i v' d' (by simpa using q1) (by simpa using q2)
theorem is_kdI {a : Addr} {es : List DictEntry} {ep : Nat} {l : List (Int × Dat)} (hk : c.K.lookup a = some { cls := .type "dict", data := .dict es.toArray ep }) (h : KD c es l) (hz : (a == sysModules) = false) (hn : (l.map (·.1)).Nodup) : IsD c (intKind c.prog c.w) (.kref a) l := by
  obtain ⟨kvs, h1, h2, h3, h4⟩ := h.pairs
  exact is_kd hk ⟨es.toArray, ep, ⟨rfl, rfl, rfl⟩, rfl, fun e he => h1 e (by simpa using he), by simpa using h2, by rw [h3]; exact hn⟩ hz h3 h4

theorem fs_hex {i : Int} (hl : (baseText "0x" 16 i).length ≤ 10000) : FS c k (.builtin "hex") [.int i] (.str (baseText "0x" 16 i)) := by
  intro A s β vs Q ha hb hs r hQ
  obtain ⟨v, vs', rfl, r1, r2⟩ := r.inv_cons
  cases r2.inv_nil
  obtain ⟨t, rfl⟩ := r1.inv_int
  exact P.hex_of_int (hQ _ s.heap β _ (Nx.refl hs) (.str _ _)) (by rw [sizeLine_eq]; omega)

variable {A : Around} {β₀ : View} {h₀ : Heap} {s₀ : Shared} {σ : DEnv} {η : Hid} {K : Flow → Shared → Prop} {rest : List Stmt}
theorem x_ixor {x : Str} {p' pos : Pos} {e : Expr} {a b : Int} (hx : (ρ ++ σ).lookup x = some (.int a)) (he : EV c k env (ρ ++ σ) e (.int b)) (hσ : σ.lookup x = none) (hk : KindOk env x)
    (h : SX c k A env β₀ h₀ s₀ ((x, .int (Builtin.bitXor a b)) :: ρ) σ η rest K) : SX c k A env β₀ h₀ s₀ ρ σ η (.AugAssign (.Name x p') .BitXor e pos :: rest) K :=
  x_aug hx he hσ hk (fun _ _ _ _ _ _ _ hQ => ixor_int (hQ _ _)) h
theorem x_iadd_int {x : Str} {p' pos : Pos} {e : Expr} {a b : Int} (hx : (ρ ++ σ).lookup x = some (.int a)) (he : EV c k env (ρ ++ σ) e (.int b)) (hσ : σ.lookup x = none) (hk : KindOk env x)
    (h : SX c k A env β₀ h₀ s₀ ((x, .int (a + b)) :: ρ) σ η rest K) : SX c k A env β₀ h₀ s₀ ρ σ η (.AugAssign (.Name x p') .Add e pos :: rest) K :=
  x_aug hx he hσ hk (fun _ _ _ _ _ _ _ hQ => PyProof.Rows.iadd_int (hQ _ _)) h
theorem x_isub_int {x : Str} {p' pos : Pos} {e : Expr} {a b : Int} (hx : (ρ ++ σ).lookup x = some (.int a)) (he : EV c k env (ρ ++ σ) e (.int b)) (hσ : σ.lookup x = none) (hk : KindOk env x)
    (h : SX c k A env β₀ h₀ s₀ ((x, .int (a - b)) :: ρ) σ η rest K) : SX c k A env β₀ h₀ s₀ ρ σ η (.AugAssign (.Name x p') .Sub e pos :: rest) K :=
  x_aug hx he hσ hk (fun _ _ _ _ _ _ _ hQ => PyProof.Rows.isub_int (hQ _ _)) h
theorem x_ior_int {x : Str} {p' pos : Pos} {e : Expr} {a b : Int} (hx : (ρ ++ σ).lookup x = some (.int a)) (he : EV c k env (ρ ++ σ) e (.int b)) (hσ : σ.lookup x = none) (hk : KindOk env x)
    (h : SX c k A env β₀ h₀ s₀ ((x, .int (Builtin.bitOr a b)) :: ρ) σ η rest K) : SX c k A env β₀ h₀ s₀ ρ σ η (.AugAssign (.Name x p') .BitOr e pos :: rest) K :=
  x_aug hx he hσ hk (fun _ _ _ _ _ _ _ hQ => ior_int (hQ _ _)) h
theorem x_ifdiv_int {x : Str} {p' pos : Pos} {e : Expr} {a b : Int} (hx : (ρ ++ σ).lookup x = some (.int a)) (he : EV c k env (ρ ++ σ) e (.int b)) (h0 : b ≠ 0) (hp : Builtin.divisionGoesByPylong a b = false) (hσ : σ.lookup x = none) (hk : KindOk env x)
    (h : SX c k A env β₀ h₀ s₀ ((x, .int (a.fdiv b)) :: ρ) σ η rest K) : SX c k A env β₀ h₀ s₀ ρ σ η (.AugAssign (.Name x p') .FloorDiv e pos :: rest) K :=
  x_aug hx he hσ hk (fun _ _ _ _ _ _ _ hQ => ifloordiv_int h0 (hQ _ _) (.inl hp)) h
theorem x_ishl_int {x : Str} {p' pos : Pos} {e : Expr} {a b : Int} (hx : (ρ ++ σ).lookup x = some (.int a)) (he : EV c k env (ρ ++ σ) e (.int b)) (h0 : 0 ≤ b) (hp : (Builtin.Int.intBits a : Int) + b ≤ 2 ^ 27) (hσ : σ.lookup x = none) (hk : KindOk env x)
    (h : SX c k A env β₀ h₀ s₀ ((x, .int (a * 2 ^ b.toNat)) :: ρ) σ η rest K) : SX c k A env β₀ h₀ s₀ ρ σ η (.AugAssign (.Name x p') .LShift e pos :: rest) K :=
  x_aug hx he hσ hk (fun _ _ _ _ _ _ _ hQ => ilshift_int h0 hp (hQ _ _)) h
end
end Mine

open PySem PySem.W PySem.W.X PyProof.Rows PySem.Calls PySem.Spec
set_option Elab.async false
namespace Mine
set_option maxRecDepth 100000
set_option maxHeartbeats 1000000
set_option linter.unusedVariables false

/-- a call of the value on data, with words -/
def FK (c : Cx) (k : Nat) (f : Value) (ds : List Dat) (kw : List (Str × Value)) (d : Dat) : Prop :=
  ∀ (A : Around) (s : Shared) (β : View) (vs : List Value) (Q : Value → Shared → Prop), AOk k A → Base c s.heap → Sub β s.heap → Rds c β vs ds →
    (∀ v h' β' t, Nx β s.heap β' h' → Rd c β' v d → Q v { s with heap := h', toks := t }) → wpAny (model c.prog c.w) A (call f vs kw) Q (fun _ _ => False) s
theorem FK.fs {c : Cx} {k : Nat} {f : Value} {ds : List Dat} {d : Dat} (h : FK c k f ds [] d) : FS c k f ds d := h

section
variable {c : Cx} {k : Nat}
/-- a def's contract from its body, called with words and defaults -/
theorem fs_introK {kw : List (Str × Value)} {xs : List Value} {xd : List Dat} {name qual : Str} {params : Arguments} {body : List Stmt} {scope : Scope} {dV kV doc pm cdv ct oc : Value} {an od : Option Addr} {osl : Array (Option Value)} {f : Addr} {ds : List Dat} {d : Dat} {ps : List Str}
    (ho : c.K.lookup f = some ⟨oc, od, .func (fnOf name qual params body scope dV kV doc pm an cdv ct), osl⟩) (hcd : codeIn c.K cdv qual = true)
    (hxr : ∀ β, Rds c β xs xd) (hb : ∀ s vs, Base c s.heap → vs.length = ds.length → BindsTo s (fnOf name qual params body scope dV kV doc pm an cdv ct) ⟨vs, kw⟩ (ps.zip (vs ++ xs))) (hl : ps.length = ds.length + xd.length) (hps : ps.Nodup)
    (hkind : (ps.all fun y => scope.names.lookup y == some .local || scope.names.lookup y == some .cell) = true)
    (hnd : ((cellsFrom 0 scope.names []).map (·.1)).Nodup)
    (hco : scope.isCoroutine = false) (hgen : scope.isGenerator = false) (hk : scope.kind = .function)
    (hx : ∀ (L : Addr) (A : Around) (β₀ : View) (h₀ : Heap) (s₀ : Shared) (Q : Value → Shared → Prop), (∀ v h' β' t, Nx β₀ h₀ β' h' → Rd c β' v d → Q v { s₀ with heap := h', toks := t }) → SX c k A (envOfC qual scope L f cdv) β₀ h₀ s₀ (ps.zip (ds ++ xd)) [] [] body (fun fl s' => Q (retv fl) s')) :
    FK c (k + 1) (.ref f) ds kw d := by
  intro A s β vs0 Q ha hbs hs hr0 hQ
  have hr : Rds c β (vs0 ++ xs) (ds ++ xd) := hr0.append (hxr β)
  generalize hvs : vs0 ++ xs = vs at hr
  generalize hds : ds ++ xd = ds' at hr hx
  have hl' : ps.length = ds'.length := by rw [← hds, List.length_append]; exact hl
  have hvl : vs.length = ps.length := by rw [hr.1, hl']
  have hb' := hb s vs0 hbs hr0.1
  rw [hvs] at hb'
  have hkind' : ((ps.zip vs).all fun y => scope.names.lookup y.1 == some .local || scope.names.lookup y.1 == some .cell) = true := by
    rw [List.all_eq_true] at hkind ⊢
    intro y hy
    exact hkind y.1 (by have := List.mem_map_of_mem (f := (·.1)) hy; rwa [zip_fst hvl.symm] at this)
  refine wpAny_call ?_
  refine codeAny_call_function (fd := fnOf name qual params body scope dV kV doc pm an cdv ct) (by have := ha.hd; omega) (hbs.1 _ _ ho) rfl hco hgen rfl (codeRec_of hbs.1 hcd) (hb' _ _ _ _ ?_)
  refine wpAny_newFunctionEnv_cells hk (kindsX hkind' _) fun env' he s' x => ?_
  subst he
  refine ⟨hbs.2.nolimit.keeps x.toInCall.keep, codeAny_func ?_⟩
  obtain ⟨h₁, tk, rfl, _⟩ := x.done
  have hk₁ : Kp s.heap h₁ := x.toInCall.keep
  have nds : ((cellsFrom (s.heap.objs.size + 1) scope.names []).map (·.1)).Nodup := cellsFrom_names scope.names 0 (s.heap.objs.size + 1) [] [] rfl ▸ hnd
  have ndz : ((ps.zip vs).map (·.1)).Nodup := by rw [zip_fst hvl.symm]; exact hps
  have S : StB c (envOfC qual scope s.heap.objs.size f cdv) β s.heap (ps.zip ds') [] [] h₁ β [] := by
    have big : ∀ a ∈ priv (envOfC qual scope s.heap.objs.size f cdv) ([] ++ ([] : Hid).map (·.1)), s.heap.objs.size ≤ a := fun a ha => by
      rcases List.mem_cons.mp ha with rfl | ha
      · exact Nat.le_refl _
      · rw [List.map_nil, List.append_nil, List.append_nil] at ha
        obtain ⟨⟨n, a'⟩, hm, rfl⟩ := List.mem_map.mp ha
        exact Nat.le_of_lt (x.above n _ hm)
    have none0 : ∀ a ∈ priv (envOfC qual scope s.heap.objs.size f cdv) ([] ++ ([] : Hid).map (·.1)), s.heap.get? a = none := fun a ha => Heap.get?_none_of_le (big a ha)
    refine ⟨Nx.keep hs hk₁, ⟨hk, rfl, rfl, fun y d' e => ?_⟩, ?_, fun a ha => ?_, none0, ⟨_, x.toInCall.ns⟩, fun a hm => ?_, rfl, fun i x d a h1 => by simp at h1, fun p hp => (List.not_mem_nil hp).elim, fun x a l => Or.inl (lookup_mem l)⟩
    · obtain ⟨v, e', r⟩ := zip_lookup hr e
      refine ⟨v, r, ?_⟩
      have hy : y ∈ ps := by
        obtain ⟨i, hi⟩ := lookup_idx e'
        have := List.mem_map_of_mem (f := (·.1)) (List.mem_of_getElem? hi)
        rwa [zip_fst hvl.symm] at this
      have hk2 := List.all_eq_true.mp hkind y hy
      rcases Bool.or_eq_true_iff.mp hk2 with q | q
      · have q' : scope.names.lookup y = some .local := by simpa using q
        exact .inl ⟨q', _, x.toInCall.ns, bindL_at q' ndz e'⟩
      · have q' : scope.names.lookup y = some .cell := by simpa using q
        obtain ⟨a, ha⟩ := Option.isSome_iff_exists.mp (cellsFrom_some (x := y) scope.names (s.heap.objs.size + 1) [] (.inl q'))
        refine .inr ⟨.inl q', a, ha, ?_⟩
        have := x.cell y a ha
        rwa [bindC_at q' ndz e'] at this
    · show (s.heap.objs.size :: ((cellsFrom (s.heap.objs.size + 1) scope.names []).map (·.2) ++ [])).Nodup
      rw [List.append_nil, List.nodup_cons]
      refine ⟨fun hm => ?_, ?_⟩
      · obtain ⟨⟨n, a'⟩, hm', e⟩ := List.mem_map.mp hm
        have := x.above n a' hm'
        dsimp only at e; rw [e] at this; exact Nat.lt_irrefl _ this
      · have := x.apart
        exact List.pairwise_map.mpr this
    · cases q : β a with
      | none => rfl
      | some o => have := hs a o q; rw [none0 a ha] at this; cases this
    · obtain ⟨⟨n, a'⟩, hm', e⟩ := List.mem_map.mp hm
      have := x.cell n a' (lookup_of_mem_nodup nds hm')
      dsimp only at e; subst e
      exact ⟨_, this⟩
  refine wpAny_mono (hx s.heap.objs.size (A.deeper (envOfC qual scope s.heap.objs.size f cdv)) β s.heap s Q hQ ⟨ha.hh, ?_, ?_⟩ hbs _ ⟨h₁, tk, β, [], rfl, S⟩) (fun fl s' hl => ?_) fun _ _ x => x.elim
  · have := ha.hd; show A.depth + 1 + k < _; omega
  · have := ha.hu; show A.units + 3 + 20 * k + 20 < _; omega
  · cases fl <;> exact hl

variable {env : Env} {ρ : DEnv}
/-- f(e, word=False) -/
theorem ev_call_kw {x n : Str} {p pos : Pos} {e : Expr} {a : Addr} {o : Obj} {fd : FuncData} {d0 d : Dat} {b : Bool} {kn : Nat} {kpos : Pos} {kws : List Keyword} (e1 : nsIn c.K mainGlobals x = some (some (.ref a))) (e2 : c.K.lookup a = some o) (e3 : o.data = .func fd) (e4 : env.kindOf x = some .globalImplicit)
    (he : EV c k env ρ e d0) (hst : starEach [e] env = [(false, eval e env)]) (hkw : keywordEach kws env = [(some n, eval (.Constant (.bool b) kn kpos) env)])
    (hbt : backTo pos [(false, eval e env)] = [(false, eval e env)])
    (hf : FK c k (.ref a) [d0] [(n, .bool b)] d) (hd : (x == ("__debug__" : Str)) = false := by decide) : EV c k env ρ (.Call (.Name x p) [e] kws pos) d := by
  intro A s β Q ha hb hs V hQ
  refine wpAny_Call_Name_kw ((GN.own (c := c) (env := env) e1 e2 e3 e4).run hb V ?_ hd)
  rw [hst, hkw, hbt]
  show wpAny _ _ (callWith pos (.ref a) [] [(false, eval e env)] [(some n, (do let v ← eval (.Constant (.bool b) kn kpos) env; standAt pos; pure v))]) _ _ _
  refine callWith_def_kw (o := o) e3 (evalArgs_kw rfl (Calls.spliced_cons (he A s β _ ha hb hs V fun v h1 β1 t1 n1 r1 => Calls.spliced_nil ?_)))
  refine wpAny_evalAll_cons (wpAny_bind (wpAny_Constant_bool (env := env) (k := kn) (pos := kpos) (wpAny_bind (wpAny_standAt (wpAny_pure (wpAny_evalAll_nil ?_))))))
  refine ⟨n1.kp _ _ (hb.1 _ _ e2), hf A { s with heap := h1, toks := t1 } β1 [v] Q ha (hb.kp n1.kp) n1.sub (.cons r1 .nil) fun w h2 β2 t2 n2 r2 => hQ w h2 β2 t2 (n1.trans n2) r2⟩

theorem ev_gbytes {x : Str} {pos : Pos} {b : Array UInt8} {t : Tok} (e : nsIn c.K mainGlobals x = some (some (.bytes b t))) (kx : env.kindOf x = some .globalImplicit) (hd : (x == ("__debug__" : Str)) = false := by decide) : EV c k env ρ (.Name x pos) (.byt b) := ev_gname e kx (fun β => .byt _ _) hd
theorem it_bytes {b : Array UInt8} {i : Int} {x : UInt8} (h0 : 0 ≤ i) (hd : b.toList[i.toNat]? = some x) (hl : b.size ≤ 10000) : IT c k (.byt b) (.int i) (.int (x.toNat : Int)) := by
  refine ⟨"bytes", _, FB.slot_bytes_getitem.lookup, fun A s β v vi Q ha hb hs r ri hQ => ?_⟩
  obtain ⟨t, rfl⟩ := r.inv_byt
  obtain ⟨u, rfl⟩ := ri.inv_int
  refine ⟨typeIs_bytes _ _ _, ?_⟩
  have hlt : i.toNat < b.toList.length := (List.getElem?_eq_some_iff.mp hd).1
  have g : wpAny (model c.prog c.w) A (getItem (.bytes b.toList.toArray t) (.int i u)) Q (fun _ _ => False) s := by
    refine getItem_bytes (l := b.toList) (by simp; omega) h0 (by omega) ?_
    rw [List.getD_eq_getElem?_getD, hd]
    exact hQ _ s.heap β _ (Nx.refl hs) (.int _ _)
  simpa using g

theorem rds_ints {β : View} : ∀ {vs : List Value} {ns : List Int}, Rds c β vs (ns.map Dat.int) → IntsAre vs ns
  | vs, [], r => by cases r.inv_nil; exact .nil
  | vs, y :: ys, r => by
    obtain ⟨v, vs', rfl, r1, r2⟩ := r.inv_cons
    obtain ⟨t, rfl⟩ := r1.inv_int
    exact .cons _ _ (rds_ints r2)
theorem fs_bytes {ns : List Int} (hr : ∀ n ∈ ns, 0 ≤ n ∧ n < 256) (hl : ns.length ≤ 10000) : FS c k (.type "bytes") [.lst (ns.map Dat.int)] (.byt (byteArr ns)) := by
  intro A s β vs Q ha hb hs r hQ
  obtain ⟨v, vs', rfl, r1, r2⟩ := r.inv_cons
  cases r2.inv_nil
  obtain ⟨a, ws, n, rfl, hβ, rs⟩ := r1.inv_lst
  exact call_bytes_ints (ns := ns) ⟨_, hs _ _ hβ, rfl, n, rfl⟩ (rds_ints rs) hr (by rw [rs.1, List.length_map, sizeLine_eq]; omega) ha.hh fun h' t k' hk => hQ _ h' β k' (Nx.keep hs hk) (.byt _ _)
theorem fs_len_list {ds : List Dat} (hl : ds.length ≤ 10000) : FS c k (.builtin "len") [.lst ds] (.int (ds.length : Int)) := by
  intro A s β vs Q ha hb hs r hQ
  obtain ⟨v, vs', rfl, r1, r2⟩ := r.inv_cons
  cases r2.inv_nil
  obtain ⟨a, ws, n, rfl, hβ, rs⟩ := r1.inv_lst
  have e : ((ws.toArray.size : Nat) : Int) = (ds.length : Int) := by rw [List.size_toArray, rs.1]
  refine call_len_list ⟨_, hs _ _ hβ, rfl, n, rfl⟩ (by rw [e]; omega) ?_
  rw [e]
  exact hQ _ s.heap β _ (Nx.refl hs) (.int _ _)
theorem co_is_typ {a b : String} : CO c k .Is (.typ a) (.typ b) (Value.type a == Value.type b) := by
  intro A s β v₁ v₂ Q _ _ _ r1 r2 hQ
  cases r1.inv_typ; cases r2.inv_typ
  exact wpAny_is_plain rfl (hQ s.heap s.toks (Kp.refl _))
theorem co_isnot_typ {a b : String} : CO c k .IsNot (.typ a) (.typ b) (!(Value.type a == Value.type b)) := by
  intro A s β v₁ v₂ Q _ _ _ r1 r2 hQ
  cases r1.inv_typ; cases r2.inv_typ
  exact wpAny_isNot_plain rfl (hQ s.heap s.toks (Kp.refl _))
theorem co_is_none {b : Bool} : CO c k .Is (.bool b) .none false := by
  intro A s β v₁ v₂ Q _ _ _ r1 r2 hQ
  cases r1.inv_bool; cases r2.inv_none
  exact wpAny_is_plain rfl (hQ s.heap s.toks (Kp.refl _))
theorem co_isnot_none : CO c k .IsNot .none .none false := by
  intro A s β v₁ v₂ Q _ _ _ r1 r2 hQ
  cases r1.inv_none; cases r2.inv_none
  exact wpAny_isNot_plain rfl (hQ s.heap s.toks (Kp.refl _))
end
local macro_rules | `(tactic| x_close) => `(tactic| (apply $(Lean.mkIdent `hQ) <;> first | assumption | skip))
theorem type_bytes {prog : Program} {w : World} {A : Around} {h : Heap} {gens : Array GenState} {d : Drawn} {tk : Nat} {os : OsState} {b : Array UInt8} {t : Tok} {Q E : Value → Shared → Prop}
   (hQ : ∀ tk', Q (.type "bytes") ⟨h, gens, d, tk', os⟩) : wpAny (model prog w) A (call (.type "type") [.bytes b t]) Q E ⟨h, gens, d, tk, os⟩ := by
  x_run
theorem type_bool {prog : Program} {w : World} {A : Around} {h : Heap} {gens : Array GenState} {d : Drawn} {tk : Nat} {os : OsState} {b : Bool} {Q E : Value → Shared → Prop}
   (hQ : ∀ tk', Q (.type "bool") ⟨h, gens, d, tk', os⟩) : wpAny (model prog w) A (call (.type "type") [.bool b]) Q E ⟨h, gens, d, tk, os⟩ := by
  x_run
section
variable {c : Cx} {k : Nat}
theorem fs_type_bytes {b : Array UInt8} : FS c k (.type "type") [.byt b] (.typ "bytes") := by
  intro A s β vs Q ha hb hs r hQ
  obtain ⟨v, vs', rfl, r1, r2⟩ := r.inv_cons
  cases r2.inv_nil
  obtain ⟨t, rfl⟩ := r1.inv_byt
  obtain ⟨h, g, d, tk, os⟩ := s
  exact type_bytes fun tk' => hQ _ h β tk' (Nx.refl hs) (.typ _)
theorem fs_type_bool {b : Bool} : FS c k (.type "type") [.bool b] (.typ "bool") := by
  intro A s β vs Q ha hb hs r hQ
  obtain ⟨v, vs', rfl, r1, r2⟩ := r.inv_cons
  cases r2.inv_nil
  cases r1.inv_bool
  obtain ⟨h, g, d, tk, os⟩ := s
  exact type_bool fun tk' => hQ _ h β tk' (Nx.refl hs) (.typ _)
end
end Mine

open PySem PySem.W PySem.W.X PyProof.Rows PySem.Calls PySem.Spec
set_option Elab.async false
namespace Mine
set_option maxRecDepth 100000
set_option maxHeartbeats 1000000
set_option linter.unusedVariables false

/-- base64, as the text does it -/
def alphaL : List UInt8 := [65, 66, 67, 68, 69, 70, 71, 72, 73, 74, 75, 76, 77, 78, 79, 80, 81, 82, 83, 84, 85, 86, 87, 88, 89, 90, 97, 98, 99, 100, 101, 102, 103, 104, 105, 106, 107, 108, 109, 110, 111, 112, 113, 114, 115, 116, 117, 118, 119, 120, 121, 122, 48, 49, 50, 51, 52, 53, 54, 55, 56, 57, 43, 47]
def al (i : Nat) : Nat := (alphaL.getD i 0).toNat
structure B6 where
  out : List Nat
  lc : Nat
  lb : Nat
def b6in (lc b : Nat) : Nat := (lc * 256 ||| b) &&& 65535
def b6sign (lc lb : Nat) : Nat := al (lc / 2 ^ (lb - 6) % 64)
def b6turn (s : B6) (b : Nat) : B6 :=
  if s.lb + 8 < 12 then ⟨s.out ++ [b6sign (b6in s.lc b) (s.lb + 8)], b6in s.lc b, s.lb + 2⟩
  else ⟨s.out ++ [b6sign (b6in s.lc b) (s.lb + 8), b6sign (b6in s.lc b) (s.lb + 2)], b6in s.lc b, s.lb - 4⟩
def b6run (bs : List Nat) : B6 := bs.foldl b6turn ⟨[], 0, 0⟩
def b6end (s : B6) : List Nat := if s.lb = 2 then s.out ++ [al (s.lc % 4 * 16), 61, 61] else if s.lb = 4 then s.out ++ [al (s.lc % 16 * 4), 61] else s.out
def b64 (bs : List Nat) : List Nat := b6end (b6run bs)
theorem al_lt (i : Nat) : al i < 256 := by unfold al; exact UInt8.toNat_lt _
theorem alphaL_at {i : Nat} (h : i < 64) : alphaL[i]? = some (alphaL.getD i 0) := by
  rw [List.getD_eq_getElem?_getD]
  have : i < alphaL.length := h
  rw [List.getElem?_eq_getElem this]; rfl
theorem b6_inv (bs : List Nat) : (b6run bs).lb = 0 ∨ (b6run bs).lb = 2 ∨ (b6run bs).lb = 4 := by
  have gen : ∀ (bs : List Nat) (s : B6), (s.lb = 0 ∨ s.lb = 2 ∨ s.lb = 4) → ((bs.foldl b6turn s).lb = 0 ∨ (bs.foldl b6turn s).lb = 2 ∨ (bs.foldl b6turn s).lb = 4) := by
    intro bs
    induction bs with
    | nil => exact fun s h => h
    | cons b bs ih =>
      intro s h
      refine ih _ ?_
      unfold b6turn
      split
      · show s.lb + 2 = 0 ∨ s.lb + 2 = 2 ∨ s.lb + 2 = 4; omega
      · show s.lb - 4 = 0 ∨ s.lb - 4 = 2 ∨ s.lb - 4 = 4; omega
  exact gen bs _ (.inl rfl)
theorem b6_len (bs : List Nat) : (b6run bs).out.length ≤ 2 * bs.length := by
  have gen : ∀ (bs : List Nat) (s : B6), (bs.foldl b6turn s).out.length ≤ s.out.length + 2 * bs.length := by
    intro bs
    induction bs with
    | nil => exact fun s => by simp
    | cons b bs ih =>
      intro s
      refine Nat.le_trans (ih _) ?_
      have : (b6turn s b).out.length ≤ s.out.length + 2 := by unfold b6turn; split <;> simp
      rw [List.length_cons]; omega
  exact Nat.le_trans (gen bs _) (by simp)
theorem b6_bytes (bs : List Nat) : ∀ x ∈ (b6run bs).out, x < 256 := by
  have gen : ∀ (bs : List Nat) (s : B6), (∀ x ∈ s.out, x < 256) → ∀ x ∈ (bs.foldl b6turn s).out, x < 256 := by
    intro bs
    induction bs with
    | nil => exact fun s h => h
    | cons b bs ih =>
      intro s h
      refine ih _ fun x hx => ?_
      unfold b6turn at hx
      split at hx
      · rcases List.mem_append.mp hx with q | q
        · exact h x q
        · simp at q; subst q; exact al_lt _
      · rcases List.mem_append.mp hx with q | q
        · exact h x q
        · simp at q; rcases q with q | q <;> subst q <;> exact al_lt _
  exact gen bs _ (fun x h => nomatch h)
theorem b6in_lt (lc b : Nat) : b6in lc b < 65536 := by
  unfold b6in
  rw [show (65535 : Nat) = 2 ^ 16 - 1 by rfl, Nat.and_two_pow_sub_one_eq_mod]; omega
theorem b6_lc (bs : List Nat) : (b6run bs).lc < 65536 := by
  have gen : ∀ (bs : List Nat) (s : B6), s.lc < 65536 → (bs.foldl b6turn s).lc < 65536 := by
    intro bs
    induction bs with
    | nil => exact fun s h => h
    | cons b bs ih =>
      intro s h
      refine ih _ ?_
      unfold b6turn
      split
      · exact b6in_lt _ _
      · exact b6in_lt _ _
  exact gen bs _ (by decide)
theorem b6run_succ (bs : List Nat) (i b : Nat) (h : bs[i]? = some b) : b6run (bs.take (i + 1)) = b6turn (b6run (bs.take i)) b := by
  rw [List.take_add_one, h]
  unfold b6run
  rw [List.foldl_append]; rfl
def nat (l : List Nat) : List Dat := l.map fun (n : Nat) => Dat.int (n : Int)
theorem nat_snoc (l : List Nat) (n : Nat) : nat (l ++ [n]) = nat l ++ [Dat.int (n : Int)] := by unfold nat; rw [List.map_append]; rfl
theorem nat_ints (l : List Nat) : nat l = (l.map fun (n : Nat) => (n : Int)).map Dat.int := by unfold nat; rw [List.map_map]; rfl
theorem nat_len (l : List Nat) : (nat l).length = l.length := by unfold nat; rw [List.length_map]
theorem in_eq (lc b : Nat) : Builtin.bitAnd (Builtin.bitOr ((lc : Int) * 2 ^ (8 : Int).toNat) (b : Int)) 65535 = ((b6in lc b : Nat) : Int) := by
  have e : (lc : Int) * 2 ^ (8 : Int).toNat = ((lc * 256 : Nat) : Int) := by rw [show (2 : Int) ^ (8 : Int).toNat = ((256 : Nat) : Int) from rfl, ← Int.natCast_mul]
  rw [e, bor_nat, show (65535 : Int) = ((65535 : Nat) : Int) from rfl, band_nat]; rfl
theorem sign_eq {lc lb : Nat} (h : 6 ≤ lb) : Builtin.bitAnd ((lc : Int).fdiv (2 ^ ((lb : Int) - 6).toNat)) 63 = ((lc / 2 ^ (lb - 6) % 64 : Nat) : Int) := by
  have e : ((lb : Int) - 6).toNat = lb - 6 := by omega
  have e2 : (2 : Int) ^ (lb - 6) = ((2 ^ (lb - 6) : Nat) : Int) := by push_cast; rfl
  rw [e, e2, fdiv_nat, show (63 : Int) = ((63 : Nat) : Int) from rfl, band_nat, show (63 : Nat) = 2 ^ 6 - 1 by rfl, Nat.and_two_pow_sub_one_eq_mod]
def b6n (s : B6) : Nat := if s.lb + 8 < 12 then 1 else 2
def b6sgs (s : B6) (b j : Nat) : List Nat := (List.range j).map fun j => b6sign (b6in s.lc b) (s.lb + 8 - 6 * j)
theorem b6sgs_succ (s : B6) (b j : Nat) : b6sgs s b (j + 1) = b6sgs s b j ++ [b6sign (b6in s.lc b) (s.lb + 8 - 6 * j)] := by
  unfold b6sgs; rw [List.range_succ, List.map_append]; rfl
theorem b6turn_eq (s : B6) (b : Nat) (h : s.lb = 0 ∨ s.lb = 2 ∨ s.lb = 4) : (b6turn s b).out = s.out ++ b6sgs s b (b6n s) ∧ (b6turn s b).lc = b6in s.lc b ∧ (b6turn s b).lb = s.lb + 8 - 6 * b6n s := by
  unfold b6turn b6n
  split
  · refine ⟨rfl, rfl, ?_⟩
    show s.lb + 2 = s.lb + 8 - 6 * 1; omega
  · refine ⟨?_, rfl, ?_⟩
    · show s.out ++ _ = s.out ++ [_, _]
      have : s.lb + 2 = s.lb + 8 - 6 * 1 := by omega
      rw [this]; rfl
    · show s.lb - 4 = s.lb + 8 - 6 * 2; omega
theorem b6n_go {s : B6} (h : s.lb = 0 ∨ s.lb = 2 ∨ s.lb = 4) {j : Nat} (hj : j < b6n s) : 6 ≤ s.lb + 8 - 6 * j := by unfold b6n at hj; split at hj <;> omega
theorem b6n_stop {s : B6} (h : s.lb = 0 ∨ s.lb = 2 ∨ s.lb = 4) : s.lb + 8 - 6 * b6n s < 6 := by unfold b6n; split <;> omega
theorem last2_eq (lc : Nat) : Builtin.bitAnd (lc : Int) 3 * 2 ^ (4 : Int).toNat = ((lc % 4 * 16 : Nat) : Int) := by
  rw [show (3 : Int) = ((3 : Nat) : Int) from rfl, band_nat, show (3 : Nat) = 2 ^ 2 - 1 by rfl, Nat.and_two_pow_sub_one_eq_mod, show (2 : Int) ^ (4 : Int).toNat = ((16 : Nat) : Int) from rfl, ← Int.natCast_mul]
theorem last4_eq (lc : Nat) : Builtin.bitAnd (lc : Int) 15 * 2 ^ (2 : Int).toNat = ((lc % 16 * 4 : Nat) : Int) := by
  rw [show (15 : Int) = ((15 : Nat) : Int) from rfl, band_nat, show (15 : Nat) = 2 ^ 4 - 1 by rfl, Nat.and_two_pow_sub_one_eq_mod, show (2 : Int) ^ (2 : Int).toNat = ((4 : Nat) : Int) from rfl, ← Int.natCast_mul]
def octs (b : Array UInt8) : List Nat := b.toList.map UInt8.toNat
def bytesOf (l : List Nat) : Array UInt8 := byteArr (l.map fun (n : Nat) => (n : Int))
theorem fs_bytes_nat {c : Cx} {k : Nat} {l : List Nat} (hr : ∀ n ∈ l, n < 256) (hl : l.length ≤ 10000) : FS c k (.type "bytes") [.lst (nat l)] (.byt (bytesOf l)) := by
  rw [nat_ints]
  refine fs_bytes (fun n hn => ?_) (by rw [List.length_map]; exact hl)
  obtain ⟨m, hm, rfl⟩ := List.mem_map.mp hn
  have := hr m hm; omega
end Mine

open PySem PySem.W PySem.W.X PyProof.Rows PySem.Calls PySem.Spec
set_option Elab.async false
namespace Mine
set_option maxRecDepth 100000
set_option maxHeartbeats 1000000
set_option linter.unusedVariables false

def itAt (L : Addr) (j : Nat) : Obj → Prop := fun o => o.cls = .type "list_iterator" ∧ o.data = .fields #[.ref L, .int j 0]

theorem kind_next' : builtinKind "next" = none := by decide +kernel
theorem plain_next' : plainId "next" = true := by decide +kernel
theorem entry_next' : entryFor table "next" = some Builtin.«next» := entryFor_of_tree (by kernel_rfl)
theorem args_next' (a : Value) : argsOk "next" ⟨[a], []⟩ := by unfold argsOk; kernel_rfl

section
variable {prog : Program} {w : World} {A : Around} {E : Value → Shared → Prop} {s : Shared}
theorem call_next {it l : Addr} {i : Nat} {items : Array Value} {x : Value} {Q : Value → Shared → Prop} (hit : s.heap.IsListIter it l i) (hl : s.heap.IsList l items) (hx : items[i]? = some x)
    (hQ : ∀ h', h'.IsListIter it l (i + 1) → Heap.SameBut it s.heap h' → Q x { s with heap := h' }) : wpAny (model prog w) A (call (.builtin "next") [.ref it]) Q E s := by
  obtain ⟨oi, e1, e2, e3⟩ := id hit
  obtain ⟨ot, f1, _, nt, f2⟩ := hl
  refine call_function_entry kind_next' plain_next' entry_next' (args_next' _) ?_
  unfold Builtin.«next»
  refine wpAny_bind (m := someArgs "next" 1 2 _) (wpAny_pure ?_)
  refine wpAny_bind (wpAny_specialOf hit.typeIs slot_listiter_next.lookup ?_)
  simp only [Option.isNone_some, Bool.false_eq_true, if_false]
  refine wpAny_bind (wpAny_callSpecial?_slot (name := Str.ofString "__next__") hit.typeIs slot_listiter_next (wpAny_call_entry slot_listiter_next hit.typeIs entry_listiter_next ?_ (args_listiter_next _)))
  show wpAny _ _ (field (.ref it) 0 >>= _) _ _ s
  refine wpAny_bind (wpAny_field e1 e3 (x := .ref l) rfl ?_)
  show wpAny _ _ (if (Value.ref l == Value.none) = true then _ else _) _ _ s
  rw [if_neg (show ¬ ((Value.ref l == Value.none) = true) from Bool.false_ne_true)]
  show wpAny _ _ (field (.ref it) 1 >>= _) _ _ s
  refine wpAny_bind (wpAny_field e1 e3 (x := .int i 0) rfl ?_)
  show wpAny _ _ (seqItems? (.ref l) >>= _) _ _ s
  refine wpAny_bind (wpAny_seqItems f1 f2 ?_)
  simp only [Int.toNat_natCast, hx]
  refine wpAny_bind (wpAny_setField e1 e3 (by simp) (wpAny_pure ⟨x, rfl, wpAny_pure ⟨x, rfl, hQ _ ⟨_, Heap.get?_update_self _ e1 (Obj.isFreed_of_fields (Obj.data_mapFields e3 _)), (Obj.cls_mapFields ..).trans e2, ?_⟩ (Heap.SameBut.update ..)⟩⟩))
  rw [Obj.data_mapFields e3]; simp [rawInt]
end
local macro_rules | `(tactic| x_close) => `(tactic| (apply $(Lean.mkIdent `hQ) <;> first | assumption | skip))
theorem iter_list {prog : Program} {w : World} {A : Around} {h : Heap} {gens : Array GenState} {d : Drawn} {tk : Nat} {os : OsState} {l : Addr} {items : Array Value} {n : Nat}
   (hl : h.get? l = some { cls := .type "list", dict := none, data := .seq items n, slots := #[] }) {Q E : Value → Shared → Prop}
   (hQ : ∀ a h' tk', Mem h h' [] [(a, { cls := .type "list_iterator", data := .fields #[.ref l, .int 0 0] })] → Q (.ref a) ⟨h', gens, d, tk', os⟩) :
   wpAny (model prog w) A (call (.builtin "iter") [.ref l]) Q E ⟨h, gens, d, tk, os⟩ := by
  x_run
end Mine

open PySem PySem.W PySem.W.X PyProof.Rows PySem.Calls PySem.Spec
set_option Elab.async false
namespace Mine
set_option maxRecDepth 100000
set_option maxHeartbeats 1000000
set_option linter.unusedVariables false

/-- the heap without one object -/
def erase (h : Heap) (a : Addr) : Heap := h.update a fun o => { o with data := .freed }
theorem erase_self {h : Heap} {a : Addr} : (erase h a).get? a = none := by
  cases q : (erase h a).get? a with
  | none => rfl
  | some o =>
    obtain ⟨e1, e2⟩ := Heap.get?_some_iff.mp q
    unfold erase at e1
    cases h with
    | mk objs l =>
      simp only [Heap.update, Array.getElem?_modify, if_true] at e1
      cases z : objs[a]? with
      | none => rw [z] at e1; cases e1
      | some o' =>
        rw [z] at e1
        simp at e1
        subst e1
        simp [Obj.isFreed] at e2
theorem erase_other {h : Heap} {a b : Addr} (ne : b ≠ a) : (erase h a).get? b = h.get? b := Heap.get?_update_other h _ (Ne.symm ne)
theorem erase_kp {h : Heap} {a : Addr} : Kp (erase h a) h := fun b o e => by
  by_cases q : b = a
  · rw [q, erase_self] at e; cases e
  · rw [erase_other q] at e; exact e

/-- a call that draws from an iterator -/
def FV (c : Cx) (k : Nat) (f : Value) (ds : List Dat) (j j' : Nat) (r : Int) : Prop :=
  ∀ (A : Around) (s : Shared) (β : View) (hB : Heap) (a LL : Addr) (vs : List Value) (n : Nat) (Q : Value → Shared → Prop), AOk k A → Base c hB → Kp hB s.heap → Sub β s.heap → β a = none → hB.get? a = none → β LL = some (lstO vs n) → Rds c β vs ds →
    (∃ o, s.heap.get? a = some o ∧ itAt LL j o) →
    (∀ t h' t', (∀ b o, b ≠ a → s.heap.get? b = some o → h'.get? b = some o) → (∃ o, h'.get? a = some o ∧ itAt LL j' o) → Q (.int r t) { s with heap := h', toks := t' }) → wpAny (model c.prog c.w) A (call f [.ref a]) Q (fun _ _ => False) s

section
variable {c : Cx} {k : Nat}
/-- a def that draws from its one argument, an iterator -/
theorem fv_intro {name qual : Str} {params : Arguments} {body : List Stmt} {scope : Scope} {dV kV doc pm cdv ct oc : Value} {an od : Option Addr} {osl : Array (Option Value)} {f : Addr} {ds : List Dat} {j j' : Nat} {r : Int} {x : Str}
    (ho : c.K.lookup f = some ⟨oc, od, .func (fnOf name qual params body scope dV kV doc pm an cdv ct), osl⟩) (hcd : codeIn c.K cdv qual = true)
    (hb : ∀ s v, BindsTo s (fnOf name qual params body scope dV kV doc pm an cdv ct) ⟨[v], []⟩ [(x, v)])
    (hkind : scope.names.lookup x = some .local)
    (hnd : ((cellsFrom 0 scope.names []).map (·.1)).Nodup)
    (hco : scope.isCoroutine = false) (hgen : scope.isGenerator = false) (hk : scope.kind = .function)
    (hx : ∀ (L : Addr) (A : Around) (β₀ : View) (h₀ : Heap) (s₀ : Shared) (a LL : Addr) (vs : List Value) (n : Nat), β₀ LL = some (lstO vs n) → Rds c β₀ vs ds → a ≠ LL →
      SX c k A (envOfC qual scope L f cdv) β₀ h₀ s₀ [(x, .kref a)] [] [(a, itAt LL j)] body (fun fl s' => (∃ t, retv fl = .int r t) ∧ ∃ ρ', St c (envOfC qual scope L f cdv) β₀ h₀ ρ' [] [(a, itAt LL j')] s₀ s')) :
    FV c (k + 1) (.ref f) ds j j' r := by
  intro A s β hB a LL vsL nL Q ha hbB hkB hs hβa hBa hβL hrL hao hQ
  have haL : a ≠ LL := fun e => by rw [e, hβL] at hβa; cases hβa
  obtain ⟨oa, eoa, hoa⟩ := hao
  have hbs : Base c s.heap := hbB.kp hkB
  have hkind' : ([(x, Value.ref a)].all fun y => scope.names.lookup y.1 == some .local || scope.names.lookup y.1 == some .cell) = true := by
    simp [hkind]
  refine wpAny_call ?_
  refine codeAny_call_function (fd := fnOf name qual params body scope dV kV doc pm an cdv ct) (by have := ha.hd; omega) (hbs.1 _ _ ho) rfl hco hgen rfl (codeRec_of hbs.1 hcd) (hb s (.ref a) _ _ _ _ ?_)
  refine wpAny_newFunctionEnv_cells hk (kindsX hkind' _) fun env' he s' X => ?_
  subst he
  refine ⟨hbs.2.nolimit.keeps X.toInCall.keep, codeAny_func ?_⟩
  obtain ⟨h₁, tk, rfl, _⟩ := X.done
  have hk₁ : Kp s.heap h₁ := X.toInCall.keep
  have nds : ((cellsFrom (s.heap.objs.size + 1) scope.names []).map (·.1)).Nodup := cellsFrom_names scope.names 0 (s.heap.objs.size + 1) [] [] rfl ▸ hnd
  have ekp : Kp (erase s.heap a) s.heap := erase_kp
  have hbe : Base c (erase s.heap a) := hbB.kp fun b o e => by rw [erase_other (fun q => by rw [q, hBa] at e; cases e)]; exact hkB b o e
  have S : StB c (envOfC qual scope s.heap.objs.size f cdv) β (erase s.heap a) [(x, .kref a)] [] [(a, itAt LL j)] h₁ β [] := by
    have big : ∀ b ∈ s.heap.objs.size :: (cellsFrom (s.heap.objs.size + 1) scope.names []).map (·.2), s.heap.objs.size ≤ b := fun b hb' => by
      rcases List.mem_cons.mp hb' with rfl | hb'
      · exact Nat.le_refl _
      · obtain ⟨⟨n, a'⟩, hm, rfl⟩ := List.mem_map.mp hb'
        exact Nat.le_of_lt (X.above n _ hm)
    have pe : priv (envOfC qual scope s.heap.objs.size f cdv) ([] ++ ([(a, itAt LL j)] : Hid).map (·.1)) = (s.heap.objs.size :: (cellsFrom (s.heap.objs.size + 1) scope.names []).map (·.2)) ++ [a] := rfl
    have alt : a < s.heap.objs.size := Heap.lt_size eoa
    have none0 : ∀ b ∈ priv (envOfC qual scope s.heap.objs.size f cdv) ([] ++ ([(a, itAt LL j)] : Hid).map (·.1)), (erase s.heap a).get? b = none := fun b hb' => by
      rw [pe] at hb'
      rcases List.mem_append.mp hb' with q | q
      · by_cases e : b = a
        · rw [e]; exact erase_self
        · rw [erase_other e]; exact Heap.get?_none_of_le (big b q)
      · rw [List.mem_singleton.mp q]; exact erase_self
    refine ⟨⟨ekp.trans hk₁, fun _ _ e => e, fun b o e => hk₁ _ _ (hs b o e), fun b o e e0 => by rw [e0] at e; cases e⟩, ⟨hk, rfl, rfl, fun y d' e => ?_⟩, ?_, fun b hb' => ?_, none0, ⟨_, X.toInCall.ns⟩, fun b hm => ?_, rfl, (fun i x d a h1 => by simp at h1), fun p hp => ?_, fun x a l => Or.inl (lookup_mem l)⟩
    · rw [List.lookup_cons] at e
      split at e
      · rename_i q
        cases e
        have := eq_of_beq q; subst this
        refine ⟨.ref a, .kref a, .inl ⟨hkind, _, X.toInCall.ns, bindL_at hkind (by simp) ?_⟩⟩
        simp [List.lookup_cons]
      · cases e
    · rw [pe, List.nodup_append]
      refine ⟨?_, by simp, fun u hu v hv e => ?_⟩
      · rw [List.nodup_cons]
        refine ⟨fun hm => ?_, ?_⟩
        · obtain ⟨⟨n, a'⟩, hm', e⟩ := List.mem_map.mp hm
          have := X.above n a' hm'
          dsimp only at e; rw [e] at this; exact Nat.lt_irrefl _ this
        · have := X.apart
          exact List.pairwise_map.mpr this
      · rw [List.mem_singleton.mp hv] at e
        have := big u hu
        rw [e] at this
        exact absurd alt (Nat.not_lt.mpr this)
    · rw [pe] at hb'
      rcases List.mem_append.mp hb' with q | q
      · cases z : β b with
        | none => rfl
        | some o => have := hs b o z; rw [Heap.get?_none_of_le (big b q)] at this; cases this
      · rw [List.mem_singleton.mp q]; exact hβa
    · obtain ⟨⟨n, a'⟩, hm', e⟩ := List.mem_map.mp hm
      have := X.cell n a' (lookup_of_mem_nodup nds hm')
      dsimp only at e; subst e
      exact ⟨_, this⟩
    · rw [List.mem_singleton.mp hp]; exact ⟨oa, hk₁ _ _ eoa, hoa⟩
  refine wpAny_mono (hx s.heap.objs.size (A.deeper (envOfC qual scope s.heap.objs.size f cdv)) β (erase s.heap a) s a LL vsL nL hβL hrL haL ⟨ha.hh, ?_, ?_⟩ hbe _ ⟨h₁, tk, β, [], rfl, S⟩) (fun fl s' hl => ?_) fun _ _ x => x.elim
  · have := ha.hd; show A.depth + 1 + k < _; omega
  · have := ha.hu; show A.units + 3 + 20 * k + 20 < _; omega
  · obtain ⟨⟨t, ht⟩, ρ', h', t', β', own', rfl, S'⟩ := hl
    have fin : Q (retv fl) { s with heap := h', toks := t' } := by
      rw [ht]
      obtain ⟨o', eo', ho'⟩ := S'.hi _ List.mem_cons_self
      exact hQ t h' t' (fun b o ne e => S'.nx.kp b o (by rw [erase_other ne]; exact e)) ⟨o', eo', ho'⟩
    cases fl <;> exact fin

variable {env : Env} {ρ : DEnv} {A : Around} {β₀ : View} {h₀ : Heap} {s₀ : Shared} {σ : DEnv} {η : Hid} {K : Flow → Shared → Prop} {rest : List Stmt}

/-- x = next(it) -/
theorem x_next {x it : Str} {nx : Str} {p1 p2 p3 pos spos : Pos} {a LL : Addr} {vs : List Value} {n j : Nat} {ds : List Dat} {d : Dat} (g : GN c env nx (.builtin "next")) (hit : ρ.lookup it = some (.kref a)) (hL : β₀ LL = some (lstO vs n)) (hr : Rds c β₀ vs ds) (hd : ds[j]? = some d)
    (hσ : σ.lookup x = none) (hx : KindOk env x) (h : SX c k A env β₀ h₀ s₀ ((x, d) :: ρ) σ ((a, itAt LL (j + 1)) :: η) rest K)
    (hd1 : (nx == ("__debug__" : Str)) = false := by decide) (hd2 : (it == ("__debug__" : Str)) = false := by decide) (hd3 : (it == ("__classdict__" : Str)) = false := by decide) (hs : swapsWith (.Call (.Name nx p2) [.Name it p3] [] pos) (some (.Name x p1)) spos.line env = pure false := by rfl) :
    SX c k A env β₀ h₀ s₀ ρ σ ((a, itAt LL j) :: η) (.Assign [.Name x p1] (.Call (.Name nx p2) [.Name it p3] [] pos) spos :: rest) K := by
  rintro ha hb _ ⟨h', t, β, own, rfl, S⟩
  refine wpAny_execs_cons (wpAny_Assign_Name ?_ hs)
  have he : EL c k env ρ [.Name it p3] [.kref a] := .cons (ev_name hit hd2 hd3) rfl .nil
  refine wpAny_Call_Name_kw (g.run (hb.kp S.nx.kp) S.vars ?_ hd1)
  show wpAny _ _ (callWith pos (.builtin "next") [] (backTo pos (starEach [.Name it p3] env)) []) _ _ _
  refine Calls.callWith_builtin (he.star pos) ?_
  refine evalArgs_plain (he.run pos A _ β _ ha (hb.kp S.nx.kp) S.nx.sub S.vars fun vs' h1 β1 t1 n1 r1 => ?_)
  obtain ⟨v, vs'', rfl, r2, r3⟩ := r1.inv_cons
  cases r3.inv_nil
  cases r2.inv_kref
  have S1 := S.later n1
  obtain ⟨oa, ea, ha2⟩ := S1.hi _ List.mem_cons_self
  have hβL : β1 LL = some (lstO vs n) := S1.nx.ext _ _ hL
  obtain ⟨w', hw, rw'⟩ := hr.get hd
  refine call_next (l := LL) ⟨oa, ea, ha2⟩ ⟨_, S1.nx.sub _ _ hβL, rfl, n, rfl⟩ (by simpa using hw) fun h2 hit2 hs2 => ?_
  obtain ⟨o2, eo2, ho2⟩ := hit2
  have haβ : β1 a = none := S1.pb a (hid_priv List.mem_cons_self)
  have S2 : StB c env β₀ h₀ ρ σ ((a, itAt LL (j + 1)) :: η) h2 β1 own := by
    refine StB.stepHid (hid := [(a, itAt LL j)]) (hid' := [(a, itAt LL (j + 1))]) S1 rfl (fun b o hm e => (hs2.2 b fun q => hm (by rw [q]; exact List.mem_cons_self)).trans e) (fun _ _ e => e) (fun b o e => (hs2.2 b fun q => ?_).trans (S1.nx.sub b o e)) (fun b o e e0 => by rw [e0] at e; cases e) (fun p hp => ?_)
    · rw [q, haβ] at e; cases e
    · rw [List.mem_singleton.mp hp]; exact ⟨o2, eo2, ho2⟩
  exact store (s := { s₀ with heap := h2, toks := t1 }) S2 (rw'.mono S1.nx.ext) hσ hx fun h3 t3 S3 => h ha hb _ ⟨h3, t3, β1, own, rfl, S3⟩

/-- while, with hidden objects that change -/
theorem x_while_h {test : Expr} {body : List Stmt} {pos : Pos} (n : Nat) (ρs σs : Nat → DEnv) (ηs : Nat → Hid) (h0 : ∀ x d, (ρs 0).lookup x = some d → ρ.lookup x = some d) (hσ : σs 0 = σ) (hη : ηs 0 = η)
    (go : ∀ i, i < n → ET c k env (ρs i ++ σs i) test true) (stop : ET c k env (ρs n ++ σs n) test false)
    (turn : ∀ i, i < n → SX c k A env β₀ h₀ s₀ (ρs i) (σs i) (ηs i) body (fun f s' => match f with
      | .next | .cont => St c env β₀ h₀ (ρs (i + 1)) (σs (i + 1)) (ηs (i + 1)) s₀ s'
      | _ => False))
    (hr : SX c k A env β₀ h₀ s₀ (ρs n) (σs n) (ηs n) rest K) : SX c k A env β₀ h₀ s₀ ρ σ η (.While test body [] pos :: rest) K := by
  rintro ha hb _ ⟨h, t, β, own, rfl, S⟩
  refine wpAny_execs_cons (wpAny_While ?_)
  have key : ∀ m i, i + m = n → ∀ s', St c env β₀ h₀ (ρs i) (σs i) (ηs i) s₀ s' →
      codeAny (model c.prog c.w) A (.whileLoop test body [] env) (fun r s' => match r with | .ok f => Kseq c A env rest K f s' | .error e => cameBackBy (model c.prog c.w) A env (fun _ _ => False) e s') s' := by
    intro m
    induction m with
    | zero =>
      rintro i him _ ⟨h2, t2, β2, own2, rfl, S2⟩
      have : i = n := by omega
      subst this
      refine while_turn (stop A _ (plus β2 h2 own2) _ ha (hb.kp S2.nx.kp) S2.sub_plus S2.vars_plus fun h3 β3 t3 n3 => ?_)
      simp only [Bool.false_eq_true, if_false]
      exact wpAny_execs_nil (hr ha hb _ ⟨h3, t3, β2, own2, rfl, S2.later (Nx.keep S2.nx.sub n3.kp)⟩)
    | succ m ih =>
      rintro i him _ ⟨h2, t2, β2, own2, rfl, S2⟩
      refine while_turn (go i (by omega) A _ (plus β2 h2 own2) _ ha (hb.kp S2.nx.kp) S2.sub_plus S2.vars_plus fun h3 β3 t3 n3 => ?_)
      simp only [if_true]
      refine wpAny_mono (turn i (by omega) ha hb _ ⟨h3, t3, β2, own2, rfl, S2.later (Nx.keep S2.nx.sub n3.kp)⟩) (fun f s5 q => ?_) fun _ _ q => q
      cases f with
      | next => exact ih (i + 1) (by omega) s5 q
      | cont => exact ih (i + 1) (by omega) s5 q
      | brk => exact q.elim
      | ret v => exact q.elim
  exact codeAny_mono (key n 0 (by omega) _ ⟨h, t, β, own, rfl, by rw [hσ, hη]; exact S.forget h0⟩) fun r s' q => by
    cases r with
    | ok f => cases f <;> exact q
    | error e => exact q

/-- return of an int, the state kept -/
theorem x_return_st {e : Expr} {pos : Pos} {i : Int} (he : EV c k env (ρ ++ σ) e (.int i)) (hK : ∀ t s', St c env β₀ h₀ ρ σ η s₀ s' → K (.ret (.int i t)) s') : SX c k A env β₀ h₀ s₀ ρ σ η (.Return (some e) pos :: rest) K := by
  rintro ha hb _ ⟨h', t, β, own, rfl, S⟩
  refine wpAny_execs_cons (wpAny_Return_some (he A _ (plus β h' own) _ ha (hb.kp S.nx.kp) S.sub_plus S.vars_plus fun v h1 β1 t1 n1 r1 => ?_))
  obtain ⟨tk, rfl⟩ := r1.inv_int
  exact hK tk _ ⟨h1, t1, β, own, rfl, S.later (Nx.keep S.nx.sub n1.kp)⟩

/-- x = f(it), where f draws from it -/
theorem x_draw {x it : Str} {fn : Str} {p1 p2 p3 pos spos : Pos} {a LL f : Addr} {vs : List Value} {n j j' : Nat} {ds : List Dat} {r : Int} (g : GN c env fn (.ref f)) (hit : ρ.lookup it = some (.kref a)) (hL : β₀ LL = some (lstO vs n)) (hr : Rds c β₀ vs ds) (hf : FV c k (.ref f) ds j j' r)
    (hσ : σ.lookup x = none) (hx : KindOk env x) (h : SX c k A env β₀ h₀ s₀ ((x, .int r) :: ρ) σ ((a, itAt LL j') :: η) rest K)
    (hd1 : (fn == ("__debug__" : Str)) = false := by decide) (hd2 : (it == ("__debug__" : Str)) = false := by decide) (hd3 : (it == ("__classdict__" : Str)) = false := by decide) (hs : swapsWith (.Call (.Name fn p2) [.Name it p3] [] pos) (some (.Name x p1)) spos.line env = pure false := by rfl) :
    SX c k A env β₀ h₀ s₀ ρ σ ((a, itAt LL j) :: η) (.Assign [.Name x p1] (.Call (.Name fn p2) [.Name it p3] [] pos) spos :: rest) K := by
  rintro ha hb _ ⟨h', t, β, own, rfl, S⟩
  refine wpAny_execs_cons (wpAny_Assign_Name ?_ hs)
  have he : EL c k env ρ [.Name it p3] [.kref a] := .cons (ev_name hit hd2 hd3) rfl .nil
  refine wpAny_Call_Name_kw (g.run (hb.kp S.nx.kp) S.vars ?_ hd1)
  show wpAny _ _ (callWith pos (.ref f) [] (backTo pos (starEach [.Name it p3] env)) []) _ _ _
  cases g with
  | @own _ o fd _ l hfd kx =>
    refine Calls.callWith_function (o := o) (fd := fd) (evalArgs_plain ?_)
    refine he.run pos A _ β _ ha (hb.kp S.nx.kp) S.nx.sub S.vars fun vs' h1 β1 t1 n1 r1 => ?_
    obtain ⟨v, vs'', rfl, r2, r3⟩ := r1.inv_cons
    cases r3.inv_nil
    cases r2.inv_kref
    have S1 := S.later n1
    obtain ⟨oa, ea, ha2⟩ := S1.hi _ List.mem_cons_self
    have hβL : β1 LL = some (lstO vs n) := S1.nx.ext _ _ hL
    have haβ : β1 a = none := S1.pb a (hid_priv List.mem_cons_self)
    refine ⟨⟨S1.nx.kp _ _ (hb.1 _ _ l), hfd⟩, ?_⟩
    refine hf A _ β1 h₀ a LL vs n _ ha hb S1.nx.kp S1.nx.sub haβ (S1.p0 a (hid_priv List.mem_cons_self)) hβL (hr.mono S1.nx.ext) ⟨oa, ea, ha2⟩ fun t2 h2 tk2 hk2 ho2 => ?_
    obtain ⟨o2, eo2, ho2⟩ := ho2
    have S2 : StB c env β₀ h₀ ρ σ ((a, itAt LL j') :: η) h2 β1 own := by
      refine StB.stepHid (hid := [(a, itAt LL j)]) (hid' := [(a, itAt LL j')]) S1 rfl (fun b o hm e => hk2 b o (fun q => hm (by rw [q]; exact List.mem_cons_self)) e) (fun _ _ e => e) (fun b o e => hk2 b o (fun q => ?_) (S1.nx.sub b o e)) (fun b o e e0 => by rw [e0] at e; cases e) (fun p hp => ?_)
      · rw [q, haβ] at e; cases e
      · rw [List.mem_singleton.mp hp]; exact ⟨o2, eo2, ho2⟩
    exact store (s := { s₀ with heap := h2, toks := tk2 }) S2 (.int _ _) hσ hx fun h3 t3 S3 => h ha hb _ ⟨h3, t3, β1, own, rfl, S3⟩
end
end Mine

open PySem PySem.W PySem.W.X PyProof.Rows PySem.Calls PySem.Spec
set_option Elab.async false
namespace Mine
set_option maxRecDepth 100000
set_option maxHeartbeats 1000000
set_option linter.unusedVariables false

/-- what _parse_varint reads -/
def vval (ns : List Nat) (j : Nat) : Nat → Nat
  | 0 => ns.getD j 0 % 64
  | m + 1 => vval ns j m * 64 + ns.getD (j + (m + 1)) 0 % 64
theorem vval_lt (ns : List Nat) (j : Nat) : ∀ m, vval ns j m < 64 ^ (m + 1)
  | 0 => by unfold vval; simp; omega
  | m + 1 => by
    have := vval_lt ns j m
    unfold vval
    have e : 64 ^ (m + 1 + 1) = 64 ^ (m + 1) * 64 := by rw [Nat.pow_succ]
    rw [e]; omega
theorem and63 (b : Nat) : Builtin.bitAnd (b : Int) 63 = ((b % 64 : Nat) : Int) := by
  rw [show (63 : Int) = ((63 : Nat) : Int) from rfl, band_nat, show (63 : Nat) = 2 ^ 6 - 1 by rfl, Nat.and_two_pow_sub_one_eq_mod]
theorem and64 (b : Nat) : (Builtin.bitAnd (b : Int) 64 != 0) = b.testBit 6 := by
  rw [show (64 : Int) = ((64 : Nat) : Int) from rfl, band_nat]
  have e : b &&& 2 ^ 6 = if b.testBit 6 then 2 ^ 6 else 0 := by
    apply Nat.eq_of_testBit_eq
    intro i
    rw [Nat.testBit_and, Nat.testBit_two_pow]
    by_cases h : 6 = i
    · subst h; cases b.testBit 6
      · simp
      · rw [if_pos rfl, Nat.testBit_two_pow]; simp
    · cases b.testBit 6
      · simp [h]
      · rw [if_pos rfl, Nat.testBit_two_pow]; simp [h]
  rw [show (64 : Nat) = 2 ^ 6 by rfl, e]
  cases b.testBit 6 <;> rfl
theorem or_low (v b : Nat) (h : b < 64) : Builtin.bitOr ((v : Int) * 2 ^ (6 : Int).toNat) (b : Int) = ((v * 64 + b : Nat) : Int) := by
  have e : (v : Int) * 2 ^ (6 : Int).toNat = ((v * 64 : Nat) : Int) := by rw [show (2 : Int) ^ (6 : Int).toNat = ((64 : Nat) : Int) from rfl, ← Int.natCast_mul]
  rw [e, bor_nat, Nat.mul_comm v 64, show (64 : Nat) = 2 ^ 6 by rfl, Nat.two_pow_add_eq_or_of_lt (by omega)]
theorem bits_small {v m : Nat} (h : v < 64 ^ (m + 1)) : Builtin.Int.intBits (v : Int) ≤ 6 * (m + 1) + 1 := by
  unfold Builtin.Int.intBits
  split
  · omega
  · rename_i hz
    have hv : v ≠ 0 := by rintro rfl; simp at hz
    rw [Int.natAbs_natCast]
    have : v.log2 < 6 * (m + 1) := (Nat.log2_lt hv).mpr (by rw [Nat.pow_mul]; exact h)
    omega
end Mine

open PySem PySem.W PySem.W.X PyProof.Rows PySem.Calls PySem.Spec
set_option Elab.async false
namespace Mine
set_option maxRecDepth 100000
set_option maxHeartbeats 1000000
set_option linter.unusedVariables false

section
variable {c : Cx} {k : Nat} {env : Env} {ρ : DEnv}

/-- slices -/
theorem ev_slc_from {e : Expr} {p : Pos} {i : Int} (he : EV c k env ρ e (.int i)) : EV c k env ρ (.Slice (some e) none none p) (.slc (some i) none) := by
  intro A s β Q ha hb hs V hQ
  refine wpAny_Slice (he A s β _ ha hb hs V fun v h1 β1 t1 n1 r1 => wpAny_pure (wpAny_pure ?_))
  obtain ⟨t, rfl⟩ := r1.inv_int
  exact hQ _ _ _ t1 (n1.trans (push_nx n1.sub rfl)) (.slc put_at (.int _ _) .none)
theorem ev_slc_to {e : Expr} {p : Pos} {i : Int} (he : EV c k env ρ e (.int i)) : EV c k env ρ (.Slice none (some e) none p) (.slc none (some i)) := by
  intro A s β Q ha hb hs V hQ
  refine wpAny_Slice (wpAny_pure (he A s β _ ha hb hs V fun v h1 β1 t1 n1 r1 => wpAny_pure ?_))
  obtain ⟨t, rfl⟩ := r1.inv_int
  exact hQ _ _ _ t1 (n1.trans (push_nx n1.sub rfl)) (.slc put_at .none (.int _ _))
theorem ev_slc_run {e e' : Expr} {p : Pos} {i j : Int} (he : EV c k env ρ e (.int i)) (he' : EV c k env ρ e' (.int j)) : EV c k env ρ (.Slice (some e) (some e') none p) (.slc (some i) (some j)) := by
  intro A s β Q ha hb hs V hQ
  refine wpAny_Slice (he A s β _ ha hb hs V fun v h1 β1 t1 n1 r1 => he' A _ β1 _ ha (hb.kp n1.kp) n1.sub (V.nx n1) fun v2 h2 β2 t2 n2 r2 => wpAny_pure ?_)
  obtain ⟨t, rfl⟩ := r1.inv_int
  obtain ⟨t', rfl⟩ := r2.inv_int
  exact hQ _ _ _ t2 ((n1.trans n2).trans (push_nx n2.sub rfl)) (.slc put_at (.int _ _) (.int _ _))
theorem Rd.inv_slc {β : View} {v : Value} {l u : Option Int} (r : Rd c β v (.slc l u)) : ∃ a vl vu, v = .ref a ∧ β a = some { cls := .type "slice", data := .fields #[vl, vu, .none] } ∧ IsPart vl l ∧ IsPart vu u := by
  cases r with | slc e x y => exact ⟨_, _, _, rfl, e, x, y⟩
theorem Rds.drop {β : View} {vs : List Value} {ds : List Dat} (r : Rds c β vs ds) (n : Nat) : Rds c β (vs.drop n) (ds.drop n) := ⟨by simp [r.1], fun i v d h1 h2 => r.2 (n + i) v d (by rwa [List.getElem?_drop] at h1) (by rwa [List.getElem?_drop] at h2)⟩
theorem Rds.take {β : View} {vs : List Value} {ds : List Dat} (r : Rds c β vs ds) (n : Nat) : Rds c β (vs.take n) (ds.take n) := by
  refine ⟨by simp [r.1], fun i v d h1 h2 => ?_⟩
  rw [List.getElem?_take] at h1 h2
  split at h1
  · rename_i q; rw [if_pos q] at h2; exact r.2 i v d h1 h2
  · cases h1

theorem it_slice_list {ds ds' : List Dat} {lo hi : Option Int} (hl : ds.length ≤ 10000) (hp : ∀ (vs : List Value) (β : View), Rds c β vs ds → ∃ vs', slicePick vs.toArray lo hi none = vs'.toArray ∧ Rds c β vs' ds') : IT c k (.lst ds) (.slc lo hi) (.lst ds') := by
  refine ⟨"list", _, list_getitem_lookup, fun A s β v vi Q ha hb hs r ri hQ => ?_⟩
  obtain ⟨a, vs, n, rfl, hβ, rs⟩ := r.inv_lst
  obtain ⟨b, vl, vu, rfl, hβ2, pl, pu⟩ := ri.inv_slc
  have hL : s.heap.IsList a vs.toArray := ⟨_, hs _ _ hβ, rfl, n, rfl⟩
  obtain ⟨vs', e, rs'⟩ := hp vs β rs
  refine ⟨hL.typeIs, wpAny_getItem_list_slice hL ⟨_, hs _ _ hβ2, rfl, rfl⟩ pl pu .none (fun e => nomatch e) ?_ (by rw [List.size_toArray, rs.1, sizeLine_eq]; omega)⟩
  rw [e]
  have n' := push_nx (o := lstO vs' 0) hs rfl
  exact hQ _ _ _ s.toks n' (.lst put_at rs'.1 fun i v d h1 h2 => (rs'.2 i v d h1 h2).mono n'.ext)
theorem it_from {ds : List Dat} {i : Int} (hl : ds.length ≤ 10000) (h0 : 0 ≤ i) : IT c k (.lst ds) (.slc (some i) none) (.lst (ds.drop i.toNat)) :=
  it_slice_list hl fun vs β rs => ⟨vs.drop i.toNat, by have := slicePick_from' vs.toArray i.toNat; rw [Int.toNat_of_nonneg h0] at this; exact this, rs.drop _⟩
theorem it_upto {ds : List Dat} {i : Int} (hl : ds.length ≤ 10000) (h0 : 0 ≤ i) : IT c k (.lst ds) (.slc none (some i)) (.lst (ds.take i.toNat)) :=
  it_slice_list hl fun vs β rs => ⟨vs.take i.toNat, by have := slicePick_upto' vs.toArray i.toNat; rw [Int.toNat_of_nonneg h0] at this; exact this, rs.take _⟩
theorem it_butlast {ds : List Dat} (hl : ds.length ≤ 10000) : IT c k (.lst ds) (.slc none (some (-1))) (.lst (ds.take (ds.length - 1))) :=
  it_slice_list hl fun vs β rs => ⟨vs.take (ds.length - 1), by have := slicePick_butLast vs.toArray 1 (by omega); rw [List.size_toArray, rs.1] at this; exact this, rs.take _⟩
theorem it_last {ds : List Dat} (hl : ds.length ≤ 10000) : IT c k (.lst ds) (.slc (some (-1)) none) (.lst (ds.drop (ds.length - 1))) :=
  it_slice_list hl fun vs β rs => ⟨vs.drop (ds.length - 1), by have := slicePick_last vs.toArray 1 (by omega); rw [List.size_toArray, rs.1] at this; exact this, rs.drop _⟩
theorem it_run {ds : List Dat} {i j : Nat} (hl : ds.length ≤ 10000) (hij : i ≤ j) (hj : j ≤ ds.length) : IT c k (.lst ds) (.slc (some i) (some j)) (.lst ((ds.drop i).take (j - i))) :=
  it_slice_list hl fun vs β rs => ⟨(vs.drop i).take (j - i), slicePick_run vs.toArray i j (by rw [List.size_toArray, rs.1]; exact hj) hij, (rs.drop _).take _⟩
theorem it_slice_bytes {b : Array UInt8} {lo hi : Option Int} (hl : b.size ≤ 10000) : IT c k (.byt b) (.slc lo hi) (.byt (KBy.picked b lo hi)) := by
  refine ⟨"bytes", _, FB.slot_bytes_getitem.lookup, fun A s β v vi Q ha hb hs r ri hQ => ?_⟩
  obtain ⟨t, rfl⟩ := r.inv_byt
  obtain ⟨a, vl, vu, rfl, hβ2, pl, pu⟩ := ri.inv_slc
  refine ⟨typeIs_bytes _ _ _, getItem_meets (typeIs_bytes _ _ _) (by decide) FB.slot_bytes_getitem FB.entry_bytes_getitem (FB.args_bytes_getitem_2 _ _) (KBc.meets_slice2 b t a pl pu) ⟨⟨_, hs _ _ hβ2, rfl, rfl⟩, ?_, fun t' k' => hQ _ s.heap β k' (Nx.refl hs) (.byt _ _)⟩⟩
  have := KBc.size_picked_le b lo hi
  rw [sizeLine_eq]; omega

/-- list + list, bytes * int -/
theorem ev_cat {l r : Expr} {pos : Pos} {ds es : List Dat} (hl : EV c k env ρ l (.lst ds)) (hr : EV c k env ρ r (.lst es)) (hz : ds.length + es.length ≤ 10000) : EV c k env ρ (.BinOp l .Add r pos) (.lst (ds ++ es)) := by
  intro A s β Q ha hb hs V hQ
  refine wpAny_BinOp (hl A s β _ ha hb hs V fun v h1 β1 t1 n1 r1 => hr A _ β1 _ ha (hb.kp n1.kp) n1.sub (V.nx n1) fun v2 h2 β2 t2 n2 r2 => ?_)
  obtain ⟨a, vs, n, rfl, hβ, rs⟩ := r1.inv_lst
  obtain ⟨b, ws, m, rfl, hβ', rs'⟩ := r2.inv_lst
  have rr := (rs.mono n2.ext).append rs'
  refine P.add_list (items := vs.toArray) (items2 := ws.toArray) (n2.sub _ _ (n2.ext _ _ hβ)) (n2.sub _ _ hβ') ?_ (by rw [List.size_toArray, List.size_toArray, rs.1, rs'.1, sizeLine_eq]; omega)
  have n' := push_nx (o := lstO (vs ++ ws) 0) n2.sub rfl
  have e : vs.toArray ++ ws.toArray = (vs ++ ws).toArray := by simp
  rw [e]
  exact hQ _ _ _ t2 ((n1.trans n2).trans n') (.lst put_at rr.1 fun i v d h1 h2 => (rr.2 i v d h1 h2).mono n'.ext)
theorem ev_rep_bytes {l r : Expr} {pos : Pos} {b : List UInt8} {n : Int} (hl : EV c k env ρ l (.byt b.toArray)) (hr : EV c k env ρ r (.int n)) (hb' : b ≠ []) (hlo : -1048576 ≤ n) (hn : n ≤ 1048576) (hz : b.length ≤ 16) : EV c k env ρ (.BinOp l .Mult r pos) (.byt ((List.replicate n.toNat b).flatten).toArray) := by
  intro A s β Q ha hb hs V hQ
  refine wpAny_BinOp (hl A s β _ ha hb hs V fun v h1 β1 t1 n1 r1 => hr A _ β1 _ ha (hb.kp n1.kp) n1.sub (V.nx n1) fun v2 h2 β2 t2 n2 r2 => ?_)
  obtain ⟨t, rfl⟩ := r1.inv_byt
  obtain ⟨u, rfl⟩ := r2.inv_int
  exact bytes_mul_any hb' hlo hn hz fun t' k' => hQ _ h2 β2 k' (n1.trans n2) (.byt _ _)
theorem ev_bytes {x : List UInt8} {n : Nat} {pos : Pos} : EV c k env ρ (.Constant (.bytes x) n pos) (.byt x.toArray) := by
  intro A s β Q _ _ hs _ hQ
  have h := hQ (.bytes x.toArray s.toks) s.heap β (s.toks + 1) (Nx.refl hs) (.byt _ _)
  exact fun _ _ _ => h

/-- lists of ints compared -/
theorem co_eq_ints {ns ms : List Int} : CO c (k + 3) .Eq (.lst (ns.map Dat.int)) (.lst (ms.map Dat.int)) (decide (ns = ms)) := by
  intro A s β v₁ v₂ Q ha hb hs r1 r2 hQ
  obtain ⟨a, vs, n, rfl, hβ, rs⟩ := r1.inv_lst
  obtain ⟨b, ws, m, rfl, hβ', rs'⟩ := r2.inv_lst
  exact eq_intsK ⟨_, hs _ _ hβ, rfl, n, rfl⟩ (rds_ints rs) ⟨_, hs _ _ hβ', rfl, m, rfl⟩ (rds_ints rs') (by have := ha.hu; omega) (hQ s.heap s.toks (Kp.refl _))
theorem co_ne_ints {ns ms : List Int} : CO c (k + 3) .NotEq (.lst (ns.map Dat.int)) (.lst (ms.map Dat.int)) (!decide (ns = ms)) := by
  intro A s β v₁ v₂ Q ha hb hs r1 r2 hQ
  obtain ⟨a, vs, n, rfl, hβ, rs⟩ := r1.inv_lst
  obtain ⟨b, ws, m, rfl, hβ', rs'⟩ := r2.inv_lst
  exact ne_intsK ⟨_, hs _ _ hβ, rfl, n, rfl⟩ (rds_ints rs) ⟨_, hs _ _ hβ', rfl, m, rfl⟩ (rds_ints rs') (by have := ha.hu; omega) (hQ s.heap s.toks (Kp.refl _))
theorem co_in_ints {ns : List Int} {i : Int} : CO c k .In (.int i) (.lst (ns.map Dat.int)) (ns.any (· == i)) := by
  intro A s β v₁ v₂ Q ha hb hs r1 r2 hQ
  obtain ⟨t, rfl⟩ := r1.inv_int
  obtain ⟨b, ws, m, rfl, hβ', rs'⟩ := r2.inv_lst
  exact in_list_ints ⟨_, hs _ _ hβ', rfl, m, rfl⟩ (rds_ints rs') (hQ s.heap s.toks (Kp.refl _))

theorem preSum_list (ns : List Int) : ∀ j, j ≤ ns.length → preSum (fun i => ns.getD i 0) j = (ns.take j).sum
  | 0, _ => by simp [preSum]
  | j + 1, h => by
    have hj : j < ns.length := h
    have e : ns.take (j + 1) = ns.take j ++ [ns[j]] := by rw [List.take_add_one, List.getElem?_eq_getElem hj]; rfl
    rw [preSum, preSum_list ns j (by omega), e, List.sum_append, List.getD_eq_getElem?_getD, List.getElem?_eq_getElem hj]
    simp
theorem ints_at {vs : List Value} {ns : List Int} (h : IntsAre vs ns) : ∀ (i : Nat) v, vs[i]? = some v → ∃ t, v = .int (ns.getD i 0) t := by
  induction h with
  | nil => intro i v hv; simp at hv
  | cons n t _ ih =>
    intro i v hv
    cases i with
    | zero => simp at hv; subst hv; exact ⟨t, rfl⟩
    | succ i => simpa using ih i v (by simpa using hv)
theorem IntsAre_len {vs : List Value} {ns : List Int} (h : IntsAre vs ns) : vs.length = ns.length := by
  induction h with
  | nil => rfl
  | cons n t _ ih => simp [ih]
/-- sum of a list of ints -/
theorem fs_sum {ns : List Int} (hf : ∀ j, j < ns.length → InLong (ns.getD j 0) ∧ InLong ((ns.take (j + 1)).sum)) : FS c k (.builtin "sum") [.lst (ns.map Dat.int)] (.int ns.sum) := by
  intro A s β vs Q ha hb hs r hQ
  obtain ⟨v, vs', rfl, r1, r2⟩ := r.inv_cons
  cases r2.inv_nil
  obtain ⟨a, ws, n, rfl, hβ, rs⟩ := r1.inv_lst
  have hi := rds_ints rs
  have hlen := IntsAre_len hi
  have hL : s.heap.IsList a ws.toArray := ⟨_, hs _ _ hβ, rfl, n, rfl⟩
  refine call_sum_walk (wpAny_pyIter_list hL ?_)
  have hlt : a < s.heap.objs.size := by obtain ⟨o, e, _⟩ := hL; exact Heap.lt_size e
  refine ⟨s.heap.objs.size, _, _, _, (fun i v => ws.toArray[i]? = some v), _, fun i => ns.getD i 0, rfl, Walks.list (A := A.in1) ha.hh s.heap.objs.size a (Nat.ne_of_lt hlt) ws.toArray, ⟨⟨_, Heap.get?_push_size _ rfl, rfl, rfl⟩, hL.push _⟩, fun b hm => ?_, fun i v hv => ints_at hi i v (by simpa using hv), fun j hj => ?_, fun h' tk t' hk => ?_⟩
  · rw [Heap.size_push]
    rcases List.mem_cons.mp hm with rfl | hm
    · exact Nat.lt_succ_self _
    · rw [List.mem_singleton.mp hm]; exact Nat.lt_succ_of_lt hlt
  · have hj' : j < ns.length := by rw [← hlen]; simpa using hj
    have := hf j hj'
    rw [preSum_list ns (j + 1) (by omega)]
    exact this
  · have e : preSum (fun i => ns.getD i 0) ws.toArray.size = ns.sum := by
      rw [List.size_toArray, hlen, preSum_list ns _ (Nat.le_refl _), List.take_length]
    rw [e]
    refine hQ _ h' β tk (Nx.keep hs fun b o q => hk b o (fun hm => ?_) (Heap.get?_push_of_some _ q)) (.int _ _)
    rw [List.mem_singleton.mp hm] at q
    exact absurd (Heap.lt_size q) (Nat.lt_irrefl _)
end
end Mine

open PySem PySem.W PySem.W.X PyProof.Rows PySem.Calls PySem.Spec
set_option Elab.async false
namespace Mine
set_option maxRecDepth 100000
set_option maxHeartbeats 1000000
set_option linter.unusedVariables false

section
variable {prog : Program} {w : World} {A : Around} {E : Value → Shared → Prop} {s : Shared}
/-- l += b -/
theorem iadd_lists {l b : Addr} {vs ws : List Value} {n m : Nat} {Q : Value → Shared → Prop} (hl : s.heap.get? l = some (lstO vs n)) (hb : s.heap.get? b = some (lstO ws m)) (hz : vs.length + ws.length ≤ 10000)
    (hQ : ∀ h' n', h'.get? l = some (lstO (vs ++ ws) n') → Heap.SameBut l s.heap h' → Q (.ref l) { s with heap := h' }) : wpAny (model prog w) A (inplaceOp .Add (.ref l) (.ref b)) Q E s := by
  have ha : s.TypeIs (.ref l) "list" := ⟨_, hl, rfl⟩
  have hb' : s.TypeIs (.ref b) "list" := ⟨_, hb, rfl⟩
  unfold inplaceOp
  refine wpAny_holding ?_
  have hfi : fillsInplaceSlot (.type "list") "add" (Operator.Add == .Add) = pure false := by
    unfold fillsInplaceSlot
    show (typeLookup (.type "list") (dunderI "add") >>= fun fi => pure (fi.isSome && !isSeqSlot fi)) = pure false
    rw [F.slot_list_iadd.lookup]
    show (pure (true && !isSeqSlot (some (.builtin "list.__iadd__"))) : Sem Bool) = pure false
    rw [show isSeqSlot (some (.builtin "list.__iadd__")) = true by decide +kernel]; rfl
  have hsi : seqSlot? (.type "list") (dunderI "add") = pure (some (.builtin "list.__iadd__")) := PySem.seqSlot_of F.slot_list_iadd.lookup (by decide +kernel)
  refine wpAny_bind (wpAny_typeOf ha (wpAny_bind (wpAny_of_eq hfi ?_)))
  show wpAny (model prog w) A (if false = true then _ else _) Q E s
  rw [if_neg Bool.false_ne_true]
  refine wpAny_bind (wpAny_binaryOp1_none (nm := "add") ha hb' noFill_list_add ?_)
  refine wpAny_bind (wpAny_of_eq hsi ?_)
  refine wpAny_bind (wpAny_rule ?_)
  have e1 : vs.toArray.size = vs.length := List.size_toArray
  have e2 : ws.toArray.size = ws.length := List.size_toArray
  refine call_meets F.slot_list_iadd ha F.entry_list_iadd (F.args_list_iadd_2 _ _) (AutoSeq1.list___iadd___list_list_0 l vs.toArray n b ws.toArray m ?_ (by rw [e1, sizeLine_eq]; omega) (by rw [e1, e2, sizeLine_eq]; omega)) ⟨hl, hb, ?_⟩
  · rw [e1, e2]; simp [Builtin.List.listTooLong, sizeLine]; intro _; omega
  · refine hQ _ (if (vs.toArray ++ ws.toArray).size == vs.toArray.size then n else n + 1) ?_ (Heap.SameBut.update ..)
    rw [Heap.get?_update_self _ hl rfl]
    simp only [Obj.mapSeq, List.append_toArray]
end

section
variable {c : Cx} {k : Nat} {env : Env} {ρ : DEnv} {A : Around} {β₀ : View} {h₀ : Heap} {s₀ : Shared} {σ : DEnv} {η : Hid} {K : Flow → Shared → Prop} {rest : List Stmt}
/-- a name takes again the object that it holds -/
theorem restore {x : Str} {d : Dat} {i : Nat} {a : Addr} {h : Heap} {t : Nat} {β : View} {own : List Addr} {Q : Unit → Shared → Prop} (S : StB c env β₀ h₀ ρ σ η h β own) (hi : σ[i]? = some (x, d)) (hown : own[i]? = some a) (hk : KindOk env x) (hρ : ρ.lookup x = none) (hnd : ∀ (j : Nat) d, σ[j]? = some (x, d) → j = i)
    (hQ : ∀ h' t', StB c env β₀ h₀ ρ σ η h' β own → Q () { s₀ with heap := h', toks := t' }) : wpAny (model c.prog c.w) A (storeName env x (.ref a)) Q (fun _ _ => False) { s₀ with heap := h, toks := t } := by
  have hp : (env.scope.kind == .class || (env.scope.kind == .module && env.locals != env.globals)) = false := by rw [S.vars.fk]; rfl
  rcases hk with hx | ⟨hx, hc⟩
  · obtain ⟨m, hm⟩ := S.fr
    refine wpAny_storeName_local hx hm (fun h' hn hs => hQ h' _ ?_) hp
    have hL : env.locals ∈ priv env (own ++ η.map (·.1)) := List.mem_cons_self
    refine ⟨S.priv_step hL fun b o ne e => (hs.2 b ne).trans e, ⟨S.vars.fk, S.vars.gl, S.vars.bl, fun y d' e => ?_⟩, S.pd, S.pb, S.p0, ⟨_, hn⟩, fun b hb => ?_, S.ol, fun j y d' b h1 h2 => ?_, fun p hp => let ⟨o, e, q⟩ := S.hi p hp; ⟨o, (hs.2 _ (priv_ne_own S.pd List.mem_cons_self (List.mem_append_right _ (List.mem_map_of_mem hp))).symm).trans e, q⟩, S.fc⟩
    · obtain ⟨v', r', l⟩ := S.vars.at' y d' e
      exact ⟨v', r', look_local (fun _ => S.cellLocals) hm hn hs (lookup_none_ne hρ e) l⟩
    · obtain ⟨v', q⟩ := S.cl b hb
      exact ⟨v', q.sameBut hs (priv_ne_cell S.pd hb).symm⟩
    · obtain ⟨l, o⟩ := S.ow j y d' b h1 h2
      refine ⟨?_, o.at (fun _ _ e => e) (hs.2 b (priv_ne_own S.pd List.mem_cons_self (List.mem_append_left _ (List.mem_of_getElem? h2))).symm)⟩
      by_cases e : y = x
      · subst e
        have := hnd j d' h1; subst this
        rw [hown] at h2; cases h2
        exact .inl ⟨hx, _, hn, by simp⟩
      · exact look_local (fun _ => S.cellLocals) hm hn hs e l
  · obtain ⟨ad, had⟩ := Option.isSome_iff_exists.mp hc
    obtain ⟨v₀, hv₀⟩ := S.cl ad (lookup_mem had)
    refine wpAny_storeName_cell S.vars.fk hx (cellsP_of had ▸ had) hv₀ fun h' hn hs => hQ h' _ ?_
    have hL : ad ∈ priv env (own ++ η.map (·.1)) := List.mem_cons_of_mem _ (List.mem_append_left _ (lookup_mem had))
    refine ⟨S.priv_step hL fun b o ne e => (hs.2 b ne).trans e, ⟨S.vars.fk, S.vars.gl, S.vars.bl, fun y d' e => ?_⟩, S.pd, S.pb, S.p0, ?_, fun b hb => ?_, S.ol, fun j y d' b h1 h2 => ?_, fun p hp => let ⟨o, e, q⟩ := S.hi p hp; ⟨o, (hs.2 _ (priv_ne_own S.pd (List.mem_cons_of_mem _ (lookup_mem had)) (List.mem_append_right _ (List.mem_map_of_mem hp))).symm).trans e, q⟩, S.fc⟩
    · obtain ⟨v', r', l⟩ := S.vars.at' y d' e
      exact ⟨v', r', look_cell S.pd had hs (lookup_none_ne hρ e) l⟩
    · obtain ⟨m, hm⟩ := S.fr
      exact ⟨m, hm.sameBut hs (priv_ne_cell S.pd (lookup_mem had))⟩
    · by_cases e : b = ad
      · subst e; exact ⟨_, hn⟩
      · obtain ⟨v', q⟩ := S.cl b hb
        exact ⟨v', q.sameBut hs e⟩
    · obtain ⟨l, o⟩ := S.ow j y d' b h1 h2
      refine ⟨?_, o.at (fun _ _ e => e) (hs.2 b (priv_ne_own S.pd (List.mem_cons_of_mem _ (lookup_mem had)) (List.mem_append_left _ (List.mem_of_getElem? h2))).symm)⟩
      by_cases e : y = x
      · subst e
        have := hnd j d' h1; subst this
        rw [hown] at h2; cases h2
        exact .inr ⟨.inl hx, ad, cellsP_of had ▸ had, hn⟩
      · exact look_cell S.pd had hs e l

/-- x += e, x the frame's own list -/
theorem x_iadd_list {x : Str} {p' pos : Pos} {e : Expr} {ds es : List Dat} {i : Nat} (hi : σ[i]? = some (x, .lst ds)) (he : EV c k env (ρ ++ σ) e (.lst es)) (himm : ∀ d ∈ es, Imm d) (hl : ds.length + es.length ≤ 10000) (hk : KindOk env x) (hρ : ρ.lookup x = none) (hnd : ∀ (j : Nat) d, σ[j]? = some (x, d) → j = i)
    (h : SX c k A env β₀ h₀ s₀ ρ (σ.set i (x, .lst (ds ++ es))) η rest K) : SX c k A env β₀ h₀ s₀ ρ σ η (.AugAssign (.Name x p') .Add e pos :: rest) K := by
  rintro ha hb _ ⟨h', t, β, own, rfl, S⟩
  refine wpAny_execs_cons (wpAny_AugAssign_Name ?_)
  have li : i < σ.length := (List.getElem?_eq_some_iff.mp hi).1
  have lo : i < own.length := by rw [← S.ol]; exact li
  have hown : own[i]? = some own[i] := List.getElem?_eq_getElem lo
  obtain ⟨lk, vs, n, ho, rs⟩ := S.ow i x _ own[i] hi hown
  have fin : wpAny (model c.prog c.w) A (eval e env) (fun v s₂ => wpAny (model c.prog c.w) A (inplaceOp .Add (.ref own[i]) v) (fun r s₃ => wpAny (model c.prog c.w) A (storeName env x r) (fun _ s' => wpAny (model c.prog c.w) A (execs rest env) K (fun _ _ => False) s') (fun _ _ => False) s₃) (fun _ _ => False) s₂) (fun _ _ => False) { s₀ with heap := h', toks := t } := by
    refine he A _ (plus β h' own) _ ha (hb.kp S.nx.kp) S.sub_plus S.vars_plus fun v h1 β1 t2 n1 r1 => ?_
    obtain ⟨b, ws, m, rfl, hβ', rs'⟩ := r1.inv_lst
    have S1 := S.later (Nx.keep S.nx.sub n1.kp)
    refine iadd_lists (n1.kp _ _ ho) (n1.sub _ _ hβ') (by rw [rs.1, rs'.1]; exact hl) fun h2 n2 e2 hs2 => ?_
    have S2 := S1.setOwn (d' := .lst (ds ++ es)) hi hown (fun b o ne e => (hs2.2 b ne).trans e) ⟨vs ++ ws, n2, e2, rs.append (rs'.imm himm)⟩
    refine restore (i := i) (d := .lst (ds ++ es)) S2 (List.getElem?_set_self li) hown hk hρ (fun j d hj => ?_) fun h3 t3 S3 => h ha hb _ ⟨h3, t3, β, own, rfl, S3⟩
    by_cases q : i = j
    · exact q.symm
    · rw [List.getElem?_set_ne q] at hj; exact hnd j d hj
  rcases lk with ⟨e1, m, nn, q⟩ | ⟨e1 | e1, ad, l, q⟩
  · exact wpAny_loadName_local S.vars.fk e1 nn q fin
  · exact wpAny_loadName_cell S.vars.fk e1 l q fin
  · rcases hk with hk | ⟨hk, _⟩
    · rw [e1] at hk; cases hk
    · rw [e1] at hk; cases hk
end
end Mine

open PySem PySem.W PySem.W.X PyProof.Rows PySem.Calls PySem.Spec
set_option Elab.async false
namespace Mine
set_option maxRecDepth 100000
set_option maxHeartbeats 1000000
set_option linter.unusedVariables false

section
variable {c : Cx} {k : Nat} {env : Env} {ρ : DEnv}
/-- e1 or e2 -/
theorem ev_or2 {e₁ e₂ : Expr} {pos : Pos} {d₁ d₂ d : Dat} {b : Bool} (h1 : EV c k env ρ e₁ d₁) (ht : TR c k d₁ b) (hd1 : b = true → d = d₁) (h2 : b = false → EV c k env ρ e₂ d) : EV c k env ρ (.BoolOp .Or [e₁, e₂] pos) d := by
  intro A s β Q ha hb hs V hQ
  refine BoolOp_or (h1 A s β _ ha hb hs V fun v h1 β1 t1 n1 r1 => ?_)
  refine ht A _ β1 v _ ha (hb.kp n1.kp) n1.sub r1 fun h3 t3 k3 => ?_
  have n3 := n1.trans (Nx.keep n1.sub k3)
  cases b with
  | true => exact hQ v h3 β1 t3 n3 (by rw [hd1 rfl]; exact r1)
  | false => exact BoolOp_one (h2 rfl A _ β1 _ ha (hb.kp n3.kp) n3.sub (V.nx n3) fun v' h4 β4 t4 n4 r4 => hQ v' h4 β4 t4 (n3.trans n4) r4)
theorem tr_list {ds : List Dat} (hl : ds.length ≤ 10000) : TR c k (.lst ds) (decide (ds ≠ [])) := by
  intro A s β v Q ha hb hs r hQ
  obtain ⟨a, vs, n, rfl, hβ, rs⟩ := r.inv_lst
  refine wpAny_truthy_list (items := vs.toArray) ⟨_, hs _ _ hβ, rfl, n, rfl⟩ (by rw [List.size_toArray, rs.1]; omega) ?_
  have e : (!vs.toArray.isEmpty) = decide (ds ≠ []) := by
    cases ds with
    | nil => cases rs.inv_nil; rfl
    | cons d ds => obtain ⟨v, vs', rfl, _, _⟩ := rs.inv_cons; simp
  rw [e]
  exact hQ s.heap _ (Kp.refl _)
theorem tr_str {x : Str} (hl : x.length ≤ 10000) : TR c k (.str x) ((x.length : Int) != 0) := by
  intro A s β v Q ha hb hs r hQ
  obtain ⟨t, rfl⟩ := r.inv_str
  exact P.truthy_str (by omega) (hQ s.heap _ (Kp.refl _))
theorem fs_len_str {x : Str} (hl : x.length ≤ 10000) : FS c k (.builtin "len") [.str x] (.int (x.length : Int)) := by
  intro A s β vs Q ha hb hs r hQ
  obtain ⟨v, vs', rfl, r1, r2⟩ := r.inv_cons
  cases r2.inv_nil
  obtain ⟨t, rfl⟩ := r1.inv_str
  exact call_len_gives (typeIs_str _ _ _) F.slot_str_len F.entry_str_len (F.args_str_len_1 _) (gives_str_len x t) (by omega) (by omega) (hQ _ s.heap β _ (Nx.refl hs) (.int _ _))
theorem mc_upper {x : Str} (hl : (Txt.upper x).length ≤ 10000) : MC c k "upper" (.str x) [] (.str (Txt.upper x)) := by
  refine ⟨"str", "str.upper", F.plainAttrs_str, F.slot_str_upper, F.type_str_upper, fun β s v hb hs r => ?_, fun A s β vs Q ha hb hs r hQ => ?_⟩
  · obtain ⟨t, rfl⟩ := r.inv_str
    exact ⟨typeIs_str _ _ _, fun _ e => nomatch e⟩
  · obtain ⟨v, vs', rfl, r1, r2⟩ := r.inv_cons
    cases r2.inv_nil
    obtain ⟨t, rfl⟩ := r1.inv_str
    exact SC.upper (by unfold Builtin.Str.tooLong; rw [sizeLine_eq]; exact decide_eq_false (by omega)) (hQ _ s.heap β _ (Nx.refl hs) (.str _ _))
/-- [..] * n -/
theorem ev_rep_list {l r : Expr} {pos : Pos} {d : Dat} {n : Int} (hl : EV c k env ρ l (.lst [d])) (hr : EV c k env ρ r (.int n)) (h0 : 0 ≤ n) (hn : n ≤ 10000) : EV c k env ρ (.BinOp l .Mult r pos) (.lst (List.replicate n.toNat d)) := by
  intro A s β Q ha hb hs V hQ
  refine wpAny_BinOp (hl A s β _ ha hb hs V fun v h1 β1 t1 n1 r1 => hr A _ β1 _ ha (hb.kp n1.kp) n1.sub (V.nx n1) fun v2 h2 β2 t2 n2 r2 => ?_)
  obtain ⟨a, vs, m, rfl, hβ, rs⟩ := r1.inv_lst
  obtain ⟨u, rfl⟩ := r2.inv_int
  obtain ⟨v, vs', rfl, rv, rn⟩ := rs.inv_cons
  cases rn.inv_nil
  have ho : h2.get? a = some (lstO [v] m) := n2.sub _ _ (n2.ext _ _ hβ)
  have hT : Shared.TypeIs { s with heap := h2, toks := t2 } (.ref a) "list" := ⟨_, ho, rfl⟩
  have e1 : [v].toArray.size = 1 := rfl
  have hA : ¬(!Builtin.List.listFitsIndex n) = true := by simp [Builtin.List.listFitsIndex]; omega
  have hC : ¬Builtin.List.listTooLong ([v].toArray.size * n.toNat) = true := by
    rw [e1, Nat.one_mul]; simp [Builtin.List.listTooLong, sizeLine]; omega
  refine wpAny_binaryOp_repeat_ref (T := "list") (U := "int") (by decide) hT (fun s' => typeIs_int s' n u) noFill_list_mul F.fills_int_mul F.slot_int_rmul repeat_list F.slot_int_index.lookup
    (call_meets F.slot_int_rmul (typeIs_int _ n u) F.entry_int_rmul (F.args_int_rmul_2 _ _) (int___rmul___int_list n u a [v].toArray m)
      ⟨ho, rfl, hT, call_meets F.slot_list_mul hT F.entry_list_mul (F.args_list_mul_2 _ _) (AutoListH.list___mul___list_int_3 a [v].toArray m n u hA (by rw [e1, Nat.one_mul]; omega) hC) ⟨ho, ?_⟩⟩)
  have e2 : List.foldl (fun x1 x2 => x1 ++ x2) #[] (List.replicate (if [v].toArray.isEmpty = true then 0 else n.toNat) [v].toArray) = (List.replicate n.toNat v).toArray := by
    rw [if_neg (by simp)]
    have gen : ∀ (k : Nat) (acc : Array Value), List.foldl (fun x1 x2 => x1 ++ x2) acc (List.replicate k #[v]) = acc ++ (List.replicate k v).toArray := by
      intro k
      induction k with
      | zero => intro acc; simp
      | succ k ih =>
        intro acc
        rw [List.replicate_succ, List.foldl_cons, ih, List.replicate_succ]
        exact Array.toList_inj.mp (by simp)
    have := gen n.toNat #[]
    simpa using this
  rw [e2]
  have rr : Rds c β2 (List.replicate n.toNat v) (List.replicate n.toNat d) := by
    refine ⟨by simp, fun i v' d' q1 q2 => ?_⟩
    rw [List.getElem?_replicate] at q1 q2
    split at q1
    · rename_i q; rw [if_pos q] at q2; cases q1; cases q2; exact rv.mono n2.ext
    · cases q1
  have n' := push_nx (o := lstO (List.replicate n.toNat v) 0) n2.sub rfl
  exact hQ _ _ _ t2 ((n1.trans n2).trans n') (.lst put_at rr.1 fun i v d h1 h2 => (rr.2 i v d h1 h2).mono n'.ext)
end
end Mine

open PySem PySem.W PySem.W.X PyProof.Rows PySem.Calls PySem.Spec
set_option Elab.async false
namespace Mine
set_option maxRecDepth 100000
set_option maxHeartbeats 1000000
set_option linter.unusedVariables false

theorem stored_new {kvs : List (Int × Value)} {x : Int} {y : Value} (h : x ∉ kvs.map (·.1)) : stored kvs x y = kvs ++ [(x, y)] := by
  unfold stored
  rw [if_neg]
  intro q
  rw [List.any_eq_true] at q
  obtain ⟨kv, hm, e⟩ := q
  exact h (by rw [← of_decide_eq_true e]; exact List.mem_map_of_mem hm)

theorem stored_all {kf vf : Nat → Int} {n : Nat} (hnd : ((List.range n).map kf).Nodup) {l : List Value} {kvs : List (Int × Value)}
    (h : StoredAll (fun v key => ∃ (i : Nat) (t : Tok), v = .int i t ∧ key = kf i) (fun v y => ∃ (i : Nat) (t t' : Tok), v = .int i t ∧ y = .int (vf i) t') l kvs) :
    (∀ (j : Nat) v, l[j]? = some v → ∃ t, v = .int j t) → l.length ≤ n → kvs.map (·.1) = (List.range l.length).map kf ∧ ∀ (i : Nat) kv, kvs[i]? = some kv → ∃ t, kv.2 = .int (vf i) t := by
  induction h with
  | nil => exact fun _ _ => ⟨rfl, fun i kv q => by simp at q⟩
  | @snoc l kvs v key y _ hk hv ih =>
    intro hl hn
    rw [List.length_append, List.length_singleton] at hn ⊢
    obtain ⟨t, ht⟩ := hl l.length v (by simp)
    obtain ⟨i, t1, e1, rfl⟩ := hk
    obtain ⟨i2, t2, t3, e2, rfl⟩ := hv
    rw [ht] at e1 e2
    cases e1
    have e3 : i2 = l.length := by injection e2 with e2 _; omega
    subst e3
    obtain ⟨ih1, ih2⟩ := ih (fun j v q => hl j v (by rw [List.getElem?_append_left (List.getElem?_eq_some_iff.mp q).1]; exact q)) (by omega)
    have hnew : kf l.length ∉ kvs.map (·.1) := by
      rw [ih1]
      intro hm
      obtain ⟨a, ha, e⟩ := List.mem_map.mp hm
      have ha' := List.mem_range.mp ha
      have := (List.pairwise_iff_getElem.mp hnd) a l.length (by simp; omega) (by simp; omega) ha'
      simp only [List.getElem_map, List.getElem_range] at this
      exact this e
    rw [stored_new hnew]
    have hlen : kvs.length = l.length := by have := congrArg List.length ih1; simpa using this
    refine ⟨by rw [List.map_append, ih1, List.range_succ, List.map_append]; rfl, fun j kv q => ?_⟩
    rcases Nat.lt_trichotomy j kvs.length with z | z | z
    · rw [List.getElem?_append_left z] at q; exact ih2 j kv q
    · subst z; simp at q; subst q; rw [hlen]; exact ⟨t3, rfl⟩
    · rw [List.getElem?_eq_none (by simp; omega)] at q; cases q

section
variable {c : Cx} {k : Nat} {env : Env} {ρ : DEnv}
/-- {.. : .. for x in range(n)} with ints -/
theorem ev_dcomp {kx vx iter : Expr} {x : Str} {px pos : Pos} {scope : Scope} {cl : List (Str × Addr)} {n : Nat} (ρc : DEnv) (kf vf : Nat → Int) (hi : EV c k env ρ iter (.rng 0 n 1)) (hsm : Builtin.Range.small 0 n 1 = true) (hn : Builtin.Range.rangeSize 0 n 1 = (n : Int))
    (hclos : closureFor scope env = pure cl) (hcell : ∀ y ∈ scope.names, y.2 ≠ .cell) (hkind : scope.kind = .function) (hnames : ∀ y ∈ scope.names, y.2 = .local → scope.names.lookup y.1 = some .local) (hx : scope.names.lookup x = some .local) (hcap : Caps env scope cl ρ ρc) (hρc : ρc.lookup x = none)
    (hkey : ∀ C i, i < n → EV c k (compEnvC scope cl C env) ((x, .int (i : Nat)) :: ρc) kx (.int (kf i))) (hval : ∀ C i, i < n → EV c k (compEnvC scope cl C env) ((x, .int (i : Nat)) :: ρc) vx (.int (vf i)))
    (hnd : ((List.range n).map kf).Nodup) (hl : n ≤ 10000) (hfold : ∀ x, foldedSetIterable iter env x = pure x := by intro _; rfl) : EV c k env ρ (.DictComp kx vx [⟨.Name x px, iter, [], 0⟩] scope pos) (.dI ((List.range n).map fun i => (kf i, .int (vf i)))) := by
  intro A s β Q ha hb hs V hQ
  refine wpAny_DictComp_free (intKind c.prog c.w) (fun _ => true) (fun v key => ∃ (i : Nat) (t : Tok), v = .int i t ∧ key = kf i) (fun v y => ∃ (i : Nat) (t t' : Tok), v = .int i t ∧ y = .int (vf i) t') hclos hcell hkind hnames hx ?_ hfold
  refine hi A s β _ ha hb hs V fun v h1 β1 t1 n1 r1 => ?_
  obtain ⟨r, t, u, w', rfl, hβ⟩ := r1.inv_rng
  refine wpAny_pyIter_range (n1.sub _ _ hβ) hsm ⟨h1.objs.size, [h1.objs.size], [h1.objs.size], n, _, _, rfl, (Walks.range ha.hh _ 0 1 n).bound, by rw [sizeLine_eq]; omega, ?_, ?_, ?_, ?_⟩
  · show IsRangeIter _ _ _ _ _
    rw [hn]; simpa using Heap.get?_push_size _ rfl
  · intro b hm; rw [List.mem_singleton.mp hm, Heap.size_push]; exact Nat.lt_succ_self _
  · have none1 : h1.get? h1.objs.size = none := Heap.get?_none_of_le (Nat.le_refl _)
    have base : ∀ (s₃ : Shared), (∀ b o, b ∉ [h1.objs.size] → (h1.push { cls := .type "range_iterator", data := .fields #[rawInt 0, rawInt (Builtin.Range.rangeSize 0 n 1), rawInt 1] }).get? b = some o → s₃.heap.get? b = some o) → Kp h1 s₃.heap := fun s₃ hk b o e => hk b o (fun hm => by rw [List.mem_singleton.mp hm, none1] at e; cases e) (Heap.get?_push_of_some _ e)
    have vars : ∀ C (i : Nat) (v : Value) (s₃ : Shared) m₃, (∃ t, v = .int (i : Int) t) → s₃.heap.Ns C m₃ → m₃ x = some v → Kp h1 s₃.heap → Vars c (compEnvC scope cl C env) ((x, .int (i : Nat)) :: ρc) β1 s₃.heap := by
      intro C i v s₃ m₃ hv hn3 hm3 kp
      obtain ⟨t, rfl⟩ := hv
      refine ⟨hkind, V.gl, V.bl, fun y d e => ?_⟩
      rw [List.lookup_cons] at e
      split at e
      · rename_i q
        cases e
        have := eq_of_beq q; subst this
        exact ⟨_, .int _ t, .inl ⟨lookup_relabel_local hx, m₃, hn3, hm3⟩⟩
      · obtain ⟨q1, q2, q3, q4⟩ := hcap.at e
        obtain ⟨v', r', l⟩ := V.at' y d q1
        refine ⟨v', r'.mono n1.ext, ?_⟩
        rcases l with ⟨e1, _⟩ | ⟨e1, a, l, q⟩
        · exact (q2 e1).elim
        · exact .inr ⟨q3, a, q4.trans l, (q.keeps n1.kp).keeps kp⟩
    refine ⟨fun C i v s₃ m₃ E' hv hn3 hm3 hk => wpAny_tests_nil ⟨rfl, s₃.heap, s₃.toks, rfl, fun _ _ e => e⟩, fun C i v s₃ m₃ E' hv _ hn3 hm3 hk => ?_, fun C i v s₃ m₃ E' hv _ hn3 hm3 hk => ?_⟩
    · have kp := base s₃ hk
      obtain ⟨hi, t, hv⟩ := hv
      have hv' : v = .int (i : Int) t := by rw [hv, show (0 : Int) + (i : Int) * 1 = (i : Int) by omega]
      refine wpAny_noRaise (hkey C i hi A s₃ β1 _ ha ((hb.kp n1.kp).kp kp) (fun b o e => kp b o (n1.sub b o e)) (vars C i v s₃ m₃ ⟨t, hv'⟩ hn3 hm3 kp) fun w h4 β4 t4 n4 r4 => ?_)
      obtain ⟨t5, rfl⟩ := r4.inv_int
      exact ⟨⟨kf i, intKind_is _ _ _ _, i, t, hv', rfl⟩, h4, t4, rfl, n4.kp⟩
    · have kp := base s₃ hk
      obtain ⟨hi, t, hv⟩ := hv
      have hv' : v = .int (i : Int) t := by rw [hv, show (0 : Int) + (i : Int) * 1 = (i : Int) by omega]
      refine wpAny_noRaise (hval C i hi A s₃ β1 _ ha ((hb.kp n1.kp).kp kp) (fun b o e => kp b o (n1.sub b o e)) (vars C i v s₃ m₃ ⟨t, hv'⟩ hn3 hm3 kp) fun w h4 β4 t4 n4 r4 => ?_)
      obtain ⟨t5, rfl⟩ := r4.inv_int
      exact ⟨⟨i, t, t5, hv', rfl⟩, h4, t4, rfl, n4.kp⟩
  · intro D h' tk kvs vs hD hdict hlen hP hst hk
    have none1 : h1.get? h1.objs.size = none := Heap.get?_none_of_le (Nat.le_refl _)
    have kp : Kp h1 h' := fun b o e => hk b o (fun hm => by rw [List.mem_singleton.mp hm, none1] at e; cases e) (Heap.get?_push_of_some _ e)
    rw [List.filter_eq_self.mpr (fun _ _ => rfl)] at hst
    obtain ⟨e1, e2⟩ := stored_all hnd hst (fun j v hj => by
      obtain ⟨_, t, hv⟩ := hP j v hj
      exact ⟨t, by rw [hv, show (0 : Int) + (j : Int) * 1 = (j : Int) by omega]⟩) (by omega)
    rw [hlen] at e1
    have hD1 : h1.get? D = none := by
      cases q : h1.get? D with
      | none => rfl
      | some o => have := Heap.get?_push_of_some { cls := .type "range_iterator", data := .fields #[rawInt 0, rawInt (Builtin.Range.rangeSize 0 n 1), rawInt 1] } q; dsimp only at hD; rw [this] at hD; cases hD
    obtain ⟨o, es, ep, eo, q1, q2, q3, q4, q5⟩ := hdict
    have n' := Nx.put (o := o) n1.sub kp hD1 eo
    refine hQ _ h' _ tk (n1.trans n') (.dI put_at ⟨es, ep, q1, q2, q3, q4, q5⟩ (by rw [e1, List.map_map]; rfl) fun i kv d h1 h2 => ?_)
    rw [List.getElem?_map, Option.map_eq_some_iff] at h2
    obtain ⟨j, hj, rfl⟩ := h2
    obtain ⟨t5, e5⟩ := e2 i kv h1
    have hij : i = j := by
      obtain ⟨hlt, e⟩ := List.getElem?_eq_some_iff.mp hj
      rw [List.getElem_range] at e; exact e
    subst hij
    rw [e5]; exact .int _ _

theorem meets_get_hit {prog : Program} {w : World} {K : Type} [DecidableEq K] {knd : KeyKind prog w K} {d : Addr} {key dflt : Value} {x : K} (hkey : knd.is x key = true) :
    MeetsIn prog w (Builtin.«dict.get» ⟨[.ref d, key, dflt], []⟩) (fun _ R s => ∃ f v, s.heap.MapOf knd d f ∧ f x = some v ∧ R (.ok (.ret v)) { s with toks := s.toks + 1 }) :=
  .of_wp fun A R s ⟨f, v, hm, hf, h⟩ => by
    show wpAny _ _ (dictGet d key >>= _) _ _ s
    refine wpAny_bind (wpAny_dictGet_of hkey hm ?_)
    rw [hf]
    exact wpAny_pure ⟨v, rfl, h⟩
/-- table.get(key, dflt) where the key is there -/
theorem mc_get_hit {l : List (Int × Dat)} {key : Int} {dflt r : Dat} (h : l.lookup key = some r) : MC c k "get" (.dI l) [.int key, dflt] r := by
  refine ⟨"dict", "dict.get", F.plainAttrs_dict, F.slot_dict_get, F.type_dict_get, fun β s v hb hs r => ?_, fun A s β vs Q ha hb hs r hQ => ?_⟩
  · cases r with
    | dI e q m rs =>
      have dO := Heap.dictOf_iff.mpr ⟨_, hs _ _ e, q⟩
      exact ⟨dO.mapOf.typeIs, dO.mapOf.noDict⟩
  · obtain ⟨v, vs1, rfl, r1, r2⟩ := r.inv_cons
    obtain ⟨v2, vs2, rfl, r3, r4⟩ := r2.inv_cons
    obtain ⟨v3, vs3, rfl, r5, r6⟩ := r4.inv_cons
    cases r6.inv_nil
    obtain ⟨t, rfl⟩ := r3.inv_int
    cases r1 with
    | dI e q m rs =>
      have dO := Heap.dictOf_iff.mpr ⟨_, hs _ _ e, q⟩
      have := valueAt_rd (c := c) (key := key) m rs
      rw [h] at this
      obtain ⟨w, e2, rw'⟩ := this
      exact call_meetsIn F.slot_dict_get dO.mapOf.typeIs F.entry_dict_get (F.args_dict_get_3 _ _ _) (meets_get_hit (intKind_is _ _ key t)) ⟨_, w, dO.mapOf, e2, hQ _ s.heap β _ (Nx.refl hs) rw'⟩
end
end Mine

open PySem PySem.W PySem.W.X PyProof.Rows PySem.Calls PySem.Spec
set_option Elab.async false
namespace Mine
set_option maxRecDepth 100000
set_option maxHeartbeats 1000000
set_option linter.unusedVariables false

def xorL (l : List Nat) : Nat := l.foldl (· ^^^ ·) 0
theorem xorL_succ (l : List Nat) (i x : Nat) (h : l[i]? = some x) : xorL (l.take (i + 1)) = xorL (l.take i) ^^^ x := by
  rw [List.take_add_one, h]; unfold xorL; rw [List.foldl_append]; rfl
def homes : List Nat := [3, 5, 6, 7, 9, 10, 11, 12, 13, 14, 15]
def wplaces (free : Nat) : List Nat := ((List.range 11).filter fun i => free.testBit i).map fun i => homes.getD i 0
def wchecks (free : Nat) : Nat := xorL (wplaces free)
def wall (free : Nat) : List Nat := wplaces free ++ [1, 2, 4, 8].filter fun p => (wchecks free &&& p) != 0
def wsum (l : List Nat) : Nat := (l.map (2 ^ ·)).sum
def word (free : Nat) : Nat := wsum (wall free) + (wall free).length % 2
/-- bits told one by one -/
theorem shr_and1 (f i : Nat) : (Builtin.bitAnd ((f : Int).fdiv (2 ^ ((i : Int)).toNat)) 1 != 0) = f.testBit i := by
  have e2 : (2 : Int) ^ ((i : Int)).toNat = ((2 ^ i : Nat) : Int) := by rw [Int.toNat_natCast]; push_cast; rfl
  rw [e2, fdiv_nat, show (1 : Int) = ((1 : Nat) : Int) from rfl, band_nat]
  rw [Nat.testBit_eq_decide_div_mod_eq]
  have : f / 2 ^ i &&& 1 = f / 2 ^ i % 2 := Nat.and_one_is_mod _
  rw [this]
  rcases Nat.mod_two_eq_zero_or_one (f / 2 ^ i) with h | h <;> rw [h] <;> rfl
/-- what a comprehension with one clause and one test gives out -/
def keep1 {α : Type} (p : α → Bool) (g : α → Dat) (x : α) : List Dat := if p x then [g x] else []
theorem keep1_map {α : Type} (p : α → Bool) (g : α → Dat) (l : List α) : l.flatMap (keep1 p g) = (l.filter p).map g := by
  induction l with
  | nil => rfl
  | cons a l ih =>
    rw [List.flatMap_cons, ih, List.filter_cons]
    unfold keep1
    cases p a <;> simp
end Mine

open PySem PySem.W PySem.W.X PyProof.Rows PySem.Calls PySem.Spec
set_option Elab.async false
namespace Mine
set_option maxRecDepth 100000
set_option maxHeartbeats 1000000
set_option linter.unusedVariables false

/-- the standing facts of a comprehension -/
structure CompOk (env : Env) (scope : Scope) (cl : List (Str × Addr)) (ρ ρc : DEnv) : Prop where
  clos : closureFor scope env = pure cl
  cell : ∀ y ∈ scope.names, y.2 ≠ .cell
  kind : scope.kind = .function
  names : ∀ y ∈ scope.names, y.2 = .local → scope.names.lookup y.1 = some .local
  cap : Caps env scope cl ρ ρc
  cov : ∀ x a, cl.lookup x = some a → (ρc.lookup x).isSome = true

def gI (H : Nat → List Dat) : Dat → List Dat
  | .int i => H i.toNat
  | _ => []
theorem gI_nat (H : Nat → List Dat) (l : List Nat) : (nat l).flatMap (gI H) = l.flatMap H := by
  unfold nat
  rw [List.flatMap_map]
  rfl
theorem rng_nat (n : Nat) : ((List.range n).map fun (i : Nat) => Dat.int (0 + (i : Int) * 1)) = nat (List.range n) := by
  unfold nat
  apply List.map_congr_left
  intro i _
  rw [show (0 : Int) + (i : Int) * 1 = (i : Int) by omega]
section
variable {c : Cx} {k : Nat} {env : Env} {ρ : DEnv}
theorem star_const {env : Env} {x : Const} {n : Nat} {pos : Pos} {es : List Expr} : starEach (.Constant x n pos :: es) env = (false, eval (.Constant x n pos) env) :: starEach es env := rfl
theorem el_int {i : Int} {n : Nat} {pos : Pos} {es : List Expr} {ds : List Dat} (h : EL c k env ρ es ds) : EL c k env ρ (.Constant (.int i) n pos :: es) (.int i :: ds) := .cons ev_int star_const h
theorem el_str {x : Str} {n : Nat} {pos : Pos} {es : List Expr} {ds : List Dat} (h : EL c k env ρ es ds) : EL c k env ρ (.Constant (.str x) n pos :: es) (.str x :: ds) := .cons ev_str star_const h
theorem ei_range_nat {target e : Expr} {n : Nat} (he : EV c k env ρ e (.rng 0 n 1)) (hsm : Builtin.Range.small 0 n 1 = true) (hn : Builtin.Range.rangeSize 0 n 1 = (n : Int)) : EI c k env ρ target e (nat (List.range n)) := by
  rw [← rng_nat]; exact ei_range he hsm hn
theorem ei_list_nat {target e : Expr} {l : List Nat} (he : EV c k env ρ e (.lst (nat l))) : EI c k env ρ target e (nat l) := ei_list he

theorem comp1_cb {elt : Expr} {x : Str} {px : Pos} {ifs : List Expr} {scope : Scope} {cl : List (Str × Addr)} {ρc : DEnv} {l : List Nat} {p : Nat → Bool} {g : Nat → Dat} (hx : scope.names.lookup x = some .local) (hρ : ρc.lookup x = none)
    (ht : ∀ C n, n ∈ l → TS c k (compEnvC scope cl C env) ((x, .int (n : Nat)) :: ρc) ifs (p n)) (he : ∀ C n, n ∈ l → p n = true → EV c k (compEnvC scope cl C env) ((x, .int (n : Nat)) :: ρc) elt (g n)) :
    ∀ C, CB c k (compEnvC scope cl C env) elt (.Name x px) ifs [] ρc (nat l) (gI (keep1 p g)) := by
  intro C d hd
  unfold nat at hd
  obtain ⟨n, hn, rfl⟩ := List.mem_map.mp hd
  refine ⟨(x, .int (n : Nat)) :: ρc, p n, ak_name hρ (.inl (lookup_relabel_local hx)), ht C n hn, fun h => ?_, fun h => ?_⟩
  · show keep1 p g ((n : Int).toNat) = []
    rw [Int.toNat_natCast]; unfold keep1; rw [h]; rfl
  · refine ⟨g n, ?_, he C n hn h⟩
    show keep1 p g ((n : Int).toNat) = [g n]
    rw [Int.toNat_natCast]; unfold keep1; rw [h]; rfl
theorem comp1_out {l : List Nat} {p : Nat → Bool} {g : Nat → Dat} : (nat l).flatMap (gI (keep1 p g)) = (l.filter p).map g := by rw [gI_nat, keep1_map]

/-- [g for x in l if p] over ints -/
theorem ev_comp1 {elt iter : Expr} {x : Str} {px : Pos} {ifs : List Expr} {scope : Scope} {pos : Pos} {cl : List (Str × Addr)} (ρc : DEnv) (l : List Nat) (p : Nat → Bool) (g : Nat → Dat)
    (hi : EI c k env ρ (.Name x px) iter (nat l)) (hok : CompOk env scope cl ρ ρc) (hx : scope.names.lookup x = some .local) (hρ : ρc.lookup x = none)
    (ht : ∀ C n, n ∈ l → TS c k (compEnvC scope cl C env) ((x, .int (n : Nat)) :: ρc) ifs (p n)) (he : ∀ C n, n ∈ l → p n = true → EV c k (compEnvC scope cl C env) ((x, .int (n : Nat)) :: ρc) elt (g n))
    (hlen : ((l.filter p).map g).length ≤ 10000) (hfold : ∀ env' x, foldedSetIterable iter env' x = pure x := by intro _ _; rfl) : EV c k env ρ (.ListComp elt [⟨.Name x px, iter, ifs, 0⟩] scope pos) (.lst ((l.filter p).map g)) := by
  rw [← comp1_out] at hlen ⊢
  exact ev_comp ρc (nat l) (gI (keep1 p g)) hi hok.clos hok.cell hok.kind hok.names hok.cap hok.cov (comp1_cb hx hρ ht he) hlen (fun g hg => by rw [List.mem_singleton.mp hg]; exact ⟨rfl, hfold⟩)
theorem ef_comp1 {elt iter : Expr} {x : Str} {px : Pos} {ifs : List Expr} {scope : Scope} {pos : Pos} {cl : List (Str × Addr)} (ρc : DEnv) (l : List Nat) (p : Nat → Bool) (g : Nat → Dat)
    (hi : EI c k env ρ (.Name x px) iter (nat l)) (hok : CompOk env scope cl ρ ρc) (hx : scope.names.lookup x = some .local) (hρ : ρc.lookup x = none)
    (ht : ∀ C n, n ∈ l → TS c k (compEnvC scope cl C env) ((x, .int (n : Nat)) :: ρc) ifs (p n)) (he : ∀ C n, n ∈ l → p n = true → EV c k (compEnvC scope cl C env) ((x, .int (n : Nat)) :: ρc) elt (g n))
    (hlen : ((l.filter p).map g).length ≤ 10000) (himm : ∀ d ∈ (l.filter p).map g, Imm d) (hfold : ∀ env' x, foldedSetIterable iter env' x = pure x := by intro _ _; rfl) : EF c k env ρ (.ListComp elt [⟨.Name x px, iter, ifs, 0⟩] scope pos) ((l.filter p).map g) := by
  rw [← comp1_out] at hlen himm ⊢
  exact ef_comp ρc (nat l) (gI (keep1 p g)) hi hok.clos hok.cell hok.kind hok.names hok.cap hok.cov (comp1_cb hx hρ ht he) hlen (fun g hg => by rw [List.mem_singleton.mp hg]; exact ⟨rfl, hfold⟩) himm
variable {A : Around} {β₀ : View} {h₀ : Heap} {s₀ : Shared} {σ : DEnv} {η : Hid} {K : Flow → Shared → Prop} {rest : List Stmt}
/-- y = [g for x in l if p], the frame's own -/
theorem x_own_comp1 {y : Str} {py spos : Pos} {elt iter : Expr} {x : Str} {px : Pos} {ifs : List Expr} {scope : Scope} {pos : Pos} {cl : List (Str × Addr)} (ρc : DEnv) (l : List Nat) (p : Nat → Bool) (g : Nat → Dat)
    (hi : EI c k env (ρ ++ σ) (.Name x px) iter (nat l)) (hok : CompOk env scope cl (ρ ++ σ) ρc) (hx : scope.names.lookup x = some .local) (hρ : ρc.lookup x = none)
    (ht : ∀ C n, n ∈ l → TS c k (compEnvC scope cl C env) ((x, .int (n : Nat)) :: ρc) ifs (p n)) (he : ∀ C n, n ∈ l → p n = true → EV c k (compEnvC scope cl C env) ((x, .int (n : Nat)) :: ρc) elt (g n))
    (hlen : ((l.filter p).map g).length ≤ 10000) (himm : ∀ d ∈ (l.filter p).map g, Imm d)
    (hρy : ρ.lookup y = none) (hσy : σ.lookup y = none) (hky : KindOk env y) (hsw : swapsWith (.ListComp elt [⟨.Name x px, iter, ifs, 0⟩] scope pos) (some (.Name y py)) spos.line env = pure true)
    (h : SX c k A env β₀ h₀ s₀ ρ ((y, .lst ((l.filter p).map g)) :: σ) η rest K) (hfold : ∀ env' x, foldedSetIterable iter env' x = pure x := by intro _ _; rfl) :
    SX c k A env β₀ h₀ s₀ ρ σ η (.Assign [.Name y py] (.ListComp elt [⟨.Name x px, iter, ifs, 0⟩] scope pos) spos :: rest) K := by
  rw [← comp1_out] at hlen himm h
  exact x_own_comp ρc (nat l) (gI (keep1 p g)) hi hok.clos hok.cell hok.kind hok.names hok.cap hok.cov (comp1_cb hx hρ ht he) hlen (fun g hg => by rw [List.mem_singleton.mp hg]; exact ⟨rfl, hfold⟩) himm hρy hσy hky hsw h
end
end Mine

open PySem PySem.W PySem.W.X PyProof.Rows PySem.Calls PySem.Spec
set_option Elab.async false
namespace Mine
set_option maxRecDepth 100000
set_option maxHeartbeats 1000000
set_option linter.unusedVariables false

theorem cov_of {cl : List (Str × Addr)} {ρc : DEnv} (h : ∀ x ∈ cl.map (·.1), (ρc.lookup x).isSome = true) : ∀ x a, cl.lookup x = some a → (ρc.lookup x).isSome = true := fun x a e => by
  obtain ⟨i, hi⟩ := lookup_idx e
  exact h x (List.mem_map.mpr ⟨_, List.mem_of_getElem? hi, rfl⟩)
theorem cov_nil {ρc : DEnv} : ∀ x ∈ ([] : List Str), (ρc.lookup x).isSome = true := fun x h => nomatch h
theorem cov_cons {y : Str} {l : List Str} {ρc : DEnv} (h : (ρc.lookup y).isSome = true) (hr : ∀ x ∈ l, (ρc.lookup x).isSome = true) : ∀ x ∈ y :: l, (ρc.lookup x).isSome = true := fun x hx => by
  rcases List.mem_cons.mp hx with rfl | q
  · exact h
  · exact hr x q
/-- a comprehension's standing facts, by looking -/
theorem compOk {env : Env} {scope : Scope} {cl : List (Str × Addr)} {ρ ρc : DEnv} (h1 : closureFor scope env = pure cl) (h2 : (scope.names.all fun y => y.2 != .cell && (y.2 != .local || scope.names.lookup y.1 == some .local)) = true) (h3 : scope.kind = .function) (h4 : Caps env scope cl ρ ρc) (h5 : ∀ x ∈ cl.map (·.1), (ρc.lookup x).isSome = true) : CompOk env scope cl ρ ρc := by
  refine ⟨h1, fun y hy => ?_, h3, fun y hy hl => ?_, h4, cov_of h5⟩
  · have := List.all_eq_true.mp h2 y hy
    intro e; rw [e] at this; simp at this
  · have := List.all_eq_true.mp h2 y hy
    rw [hl] at this; simpa using this
theorem EV.to {c : Cx} {k : Nat} {env : Env} {ρ : DEnv} {e : Expr} {d d' : Dat} (h : EV c k env ρ e d') (q : d' = d) : EV c k env ρ e d := q ▸ h
theorem ET.to {c : Cx} {k : Nat} {env : Env} {ρ : DEnv} {e : Expr} {d d' : Bool} (h : ET c k env ρ e d') (q : d' = d) : ET c k env ρ e d := q ▸ h
theorem EV.int {c : Cx} {k : Nat} {env : Env} {ρ : DEnv} {e : Expr} {i j : Int} (h : EV c k env ρ e (.int i)) (q : i = j) : EV c k env ρ e (.int j) := q ▸ h

noncomputable def gE {α : Type} (emb : α → Dat) (H : α → List Dat) : Dat → List Dat := fun d => by
  classical exact if h : ∃ a, emb a = d then H (Classical.choose h) else []
theorem gE_emb {α : Type} {emb : α → Dat} (hi : ∀ a b, emb a = emb b → a = b) (H : α → List Dat) (a : α) : gE emb H (emb a) = H a := by
  have h : ∃ b, emb b = emb a := ⟨a, rfl⟩
  unfold gE
  rw [dif_pos h, hi _ _ (Classical.choose_spec h)]
theorem gE_out {α : Type} {emb : α → Dat} (hi : ∀ a b, emb a = emb b → a = b) (H : α → List Dat) (l : List α) : (l.map emb).flatMap (gE emb H) = l.flatMap H := by
  rw [List.flatMap_map]
  exact congrArg (l.flatMap ·) (funext fun a => gE_emb hi H a)
section
variable {c : Cx} {k : Nat} {env : Env} {ρ : DEnv}
theorem compG_cb {α : Type} {elt target : Expr} {ifs : List Expr} {scope : Scope} {cl : List (Str × Addr)} {ρc : DEnv} {l : List α} {emb : α → Dat} {ext : α → DEnv} {p : α → Bool} {g : α → Dat} (hi : ∀ a b, emb a = emb b → a = b)
    (ha : ∀ C a, a ∈ l → AK c k (compEnvC scope cl C env) target (emb a) ρc (ext a))
    (ht : ∀ C a, a ∈ l → TS c k (compEnvC scope cl C env) (ext a) ifs (p a)) (he : ∀ C a, a ∈ l → p a = true → EV c k (compEnvC scope cl C env) (ext a) elt (g a)) :
    ∀ C, CB c k (compEnvC scope cl C env) elt target ifs [] ρc (l.map emb) (gE emb (keep1 p g)) := by
  intro C d hd
  obtain ⟨a, hm, rfl⟩ := List.mem_map.mp hd
  refine ⟨ext a, p a, ha C a hm, ht C a hm, fun h => ?_, fun h => ?_⟩
  · rw [gE_emb hi]; unfold keep1; rw [h]; rfl
  · refine ⟨g a, ?_, he C a hm h⟩
    rw [gE_emb hi]; unfold keep1; rw [h]; rfl
/-- [g for target in l if p] over any data -/
theorem ev_compG {α : Type} {elt target iter : Expr} {ifs : List Expr} {scope : Scope} {pos : Pos} {cl : List (Str × Addr)} (ρc : DEnv) (l : List α) (emb : α → Dat) (ext : α → DEnv) (p : α → Bool) (g : α → Dat)
    (hi : EI c k env ρ target iter (l.map emb)) (hinj : ∀ a b, emb a = emb b → a = b) (hok : CompOk env scope cl ρ ρc) (ha : ∀ C a, a ∈ l → AK c k (compEnvC scope cl C env) target (emb a) ρc (ext a))
    (ht : ∀ C a, a ∈ l → TS c k (compEnvC scope cl C env) (ext a) ifs (p a)) (he : ∀ C a, a ∈ l → p a = true → EV c k (compEnvC scope cl C env) (ext a) elt (g a))
    (hlen : ((l.filter p).map g).length ≤ 10000) (hfold : ∀ env' x, foldedSetIterable iter env' x = pure x := by intro _ _; rfl) : EV c k env ρ (.ListComp elt [⟨target, iter, ifs, 0⟩] scope pos) (.lst ((l.filter p).map g)) := by
  have e : (l.map emb).flatMap (gE emb (keep1 p g)) = (l.filter p).map g := by rw [gE_out hinj, keep1_map]
  rw [← e] at hlen ⊢
  exact ev_comp ρc (l.map emb) (gE emb (keep1 p g)) hi hok.clos hok.cell hok.kind hok.names hok.cap hok.cov (compG_cb hinj ha ht he) hlen (fun g hg => by rw [List.mem_singleton.mp hg]; exact ⟨rfl, hfold⟩)
theorem ef_compG {α : Type} {elt target iter : Expr} {ifs : List Expr} {scope : Scope} {pos : Pos} {cl : List (Str × Addr)} (ρc : DEnv) (l : List α) (emb : α → Dat) (ext : α → DEnv) (p : α → Bool) (g : α → Dat)
    (hi : EI c k env ρ target iter (l.map emb)) (hinj : ∀ a b, emb a = emb b → a = b) (hok : CompOk env scope cl ρ ρc) (ha : ∀ C a, a ∈ l → AK c k (compEnvC scope cl C env) target (emb a) ρc (ext a))
    (ht : ∀ C a, a ∈ l → TS c k (compEnvC scope cl C env) (ext a) ifs (p a)) (he : ∀ C a, a ∈ l → p a = true → EV c k (compEnvC scope cl C env) (ext a) elt (g a))
    (hlen : ((l.filter p).map g).length ≤ 10000) (himm : ∀ d ∈ (l.filter p).map g, Imm d) (hfold : ∀ env' x, foldedSetIterable iter env' x = pure x := by intro _ _; rfl) : EF c k env ρ (.ListComp elt [⟨target, iter, ifs, 0⟩] scope pos) ((l.filter p).map g) := by
  have e : (l.map emb).flatMap (gE emb (keep1 p g)) = (l.filter p).map g := by rw [gE_out hinj, keep1_map]
  rw [← e] at hlen himm ⊢
  exact ef_comp ρc (l.map emb) (gE emb (keep1 p g)) hi hok.clos hok.cell hok.kind hok.names hok.cap hok.cov (compG_cb hinj ha ht he) hlen (fun g hg => by rw [List.mem_singleton.mp hg]; exact ⟨rfl, hfold⟩) himm
variable {A : Around} {β₀ : View} {h₀ : Heap} {s₀ : Shared} {σ : DEnv} {η : Hid} {K : Flow → Shared → Prop} {rest : List Stmt}
/-- y = [g for target in l if p], the frame's own -/
theorem x_own_compG {α : Type} {y : Str} {py spos : Pos} {elt target iter : Expr} {ifs : List Expr} {scope : Scope} {pos : Pos} {cl : List (Str × Addr)} (ρc : DEnv) (l : List α) (emb : α → Dat) (ext : α → DEnv) (p : α → Bool) (g : α → Dat)
    (hi : EI c k env (ρ ++ σ) target iter (l.map emb)) (hinj : ∀ a b, emb a = emb b → a = b) (hok : CompOk env scope cl (ρ ++ σ) ρc) (ha : ∀ C a, a ∈ l → AK c k (compEnvC scope cl C env) target (emb a) ρc (ext a))
    (ht : ∀ C a, a ∈ l → TS c k (compEnvC scope cl C env) (ext a) ifs (p a)) (he : ∀ C a, a ∈ l → p a = true → EV c k (compEnvC scope cl C env) (ext a) elt (g a))
    (hlen : ((l.filter p).map g).length ≤ 10000) (himm : ∀ d ∈ (l.filter p).map g, Imm d)
    (hρy : ρ.lookup y = none) (hσy : σ.lookup y = none) (hky : KindOk env y) (hsw : swapsWith (.ListComp elt [⟨target, iter, ifs, 0⟩] scope pos) (some (.Name y py)) spos.line env = pure true)
    (h : SX c k A env β₀ h₀ s₀ ρ ((y, .lst ((l.filter p).map g)) :: σ) η rest K) (hfold : ∀ env' x, foldedSetIterable iter env' x = pure x := by intro _ _; rfl) :
    SX c k A env β₀ h₀ s₀ ρ σ η (.Assign [.Name y py] (.ListComp elt [⟨target, iter, ifs, 0⟩] scope pos) spos :: rest) K := by
  have e : (l.map emb).flatMap (gE emb (keep1 p g)) = (l.filter p).map g := by rw [gE_out hinj, keep1_map]
  rw [← e] at hlen himm h
  exact x_own_comp ρc (l.map emb) (gE emb (keep1 p g)) hi hok.clos hok.cell hok.kind hok.names hok.cap hok.cov (compG_cb hinj ha ht he) hlen (fun g hg => by rw [List.mem_singleton.mp hg]; exact ⟨rfl, hfold⟩) himm hρy hσy hky hsw h
/-- y = [g for target in l if p], shown to all -/
theorem x_assign_compG {α : Type} {y : Str} {py spos : Pos} {elt target iter : Expr} {ifs : List Expr} {scope : Scope} {pos : Pos} {cl : List (Str × Addr)} (ρc : DEnv) (l : List α) (emb : α → Dat) (ext : α → DEnv) (p : α → Bool) (g : α → Dat)
    (hi : EI c k env ρ target iter (l.map emb)) (hinj : ∀ a b, emb a = emb b → a = b) (hok : CompOk env scope cl ρ ρc) (ha : ∀ C a, a ∈ l → AK c k (compEnvC scope cl C env) target (emb a) ρc (ext a))
    (ht : ∀ C a, a ∈ l → TS c k (compEnvC scope cl C env) (ext a) ifs (p a)) (he : ∀ C a, a ∈ l → p a = true → EV c k (compEnvC scope cl C env) (ext a) elt (g a))
    (hlen : ((l.filter p).map g).length ≤ 10000)
    (hσy : σ.lookup y = none) (hky : KindOk env y) (hsw : swapsWith (.ListComp elt [⟨target, iter, ifs, 0⟩] scope pos) (some (.Name y py)) spos.line env = pure true)
    (h : SX c k A env β₀ h₀ s₀ ((y, .lst ((l.filter p).map g)) :: ρ) σ η rest K) (hfold : ∀ env' x, foldedSetIterable iter env' x = pure x := by intro _ _; rfl) :
    SX c k A env β₀ h₀ s₀ ρ σ η (.Assign [.Name y py] (.ListComp elt [⟨target, iter, ifs, 0⟩] scope pos) spos :: rest) K := by
  have e : (l.map emb).flatMap (gE emb (keep1 p g)) = (l.filter p).map g := by rw [gE_out hinj, keep1_map]
  rw [← e] at hlen h
  exact x_assign_comp ρc (l.map emb) (gE emb (keep1 p g)) hi hok.clos hok.cell hok.kind hok.names hok.cap hok.cov (compG_cb hinj ha ht he) hlen (fun g hg => by rw [List.mem_singleton.mp hg]; exact ⟨rfl, hfold⟩) hσy hky hsw h
end
theorem emb_nat : ∀ a b : Nat, Dat.int (a : Int) = Dat.int (b : Int) → a = b := fun a b h => by
  have := Dat.int.inj h; omega
theorem emb_int : ∀ a b : Int, Dat.int a = Dat.int b → a = b := fun a b h => Dat.int.inj h
theorem nat_map {α : Type} (l : List α) (f : α → Nat) : l.map (fun a => Dat.int (f a : Nat)) = nat (l.map f) := by unfold nat; rw [List.map_map]; rfl
theorem filter_true {α : Type} (l : List α) : l.filter (fun _ => true) = l := by simp
theorem imm_ints {α : Type} {l : List α} {f : α → Int} : ∀ d ∈ l.map (fun a => Dat.int (f a)), Imm d := fun d hd => by
  obtain ⟨a, _, rfl⟩ := List.mem_map.mp hd; trivial
theorem imm_nat {l : List Nat} : ∀ d ∈ nat l, Imm d := imm_ints
theorem sum_nat (l : List Nat) : (l.map fun (n : Nat) => (n : Int)).sum = ((l.sum : Nat) : Int) := by
  induction l with
  | nil => rfl
  | cons a l ih => simp only [List.map_cons, List.sum_cons]; rw [ih]; push_cast; rfl
theorem take_sum_le (l : List Nat) (j : Nat) : (l.take j).sum ≤ l.sum := by
  have := congrArg List.sum (List.take_append_drop j l)
  rw [List.sum_append] at this; omega
theorem getD_sum_le (l : List Nat) (j : Nat) : l.getD j 0 ≤ l.sum := by
  induction l generalizing j with
  | nil => simp
  | cons a l ih => cases j with
    | zero => simp
    | succ j => have := ih j; simp only [List.getD_cons_succ, List.sum_cons]; omega
theorem fs_sum_nat {c : Cx} {k : Nat} {l : List Nat} (h : l.sum < 2 ^ 62) : FS c k (.builtin "sum") [.lst (nat l)] (.int (l.sum : Nat)) := by
  rw [nat_ints, ← sum_nat]
  refine fs_sum fun j hj => ?_
  have e1 : (l.map fun (n : Nat) => (n : Int)).getD j 0 = ((l.getD j 0 : Nat) : Int) := by
    rw [List.getD_eq_getElem?_getD, List.getElem?_map, List.getD_eq_getElem?_getD]
    cases l[j]? <;> rfl
  have e2 : ((l.map fun (n : Nat) => (n : Int)).take (j + 1)).sum = (((l.take (j + 1)).sum : Nat) : Int) := by rw [← List.map_take, sum_nat]
  rw [e1, e2]
  have h1 := take_sum_le l (j + 1)
  have h2 := getD_sum_le l j
  unfold InLong
  constructor <;> constructor <;> omega
end Mine

open PySem PySem.W PySem.W.X PyProof.Rows PySem.Calls PySem.Spec
set_option Elab.async false
namespace Mine
set_option maxRecDepth 100000
set_option maxHeartbeats 1000000
set_option linter.unusedVariables false
theorem one_shl (p : Nat) : (1 : Int) * 2 ^ ((p : Int)).toNat = ((2 ^ p : Nat) : Int) := by
  rw [Int.one_mul, Int.toNat_natCast]; push_cast; rfl
theorem wplaces_lt (f : Nat) : ∀ p ∈ wplaces f, p < 16 := by
  intro p hp
  unfold wplaces at hp
  obtain ⟨i, hi, rfl⟩ := List.mem_map.mp hp
  have := (List.mem_filter.mp hi).1
  have : i < 11 := by simpa using this
  have key : ∀ i, i < 11 → homes.getD i 0 < 16 := by decide
  exact key i this
theorem wplaces_len (f : Nat) : (wplaces f).length ≤ 11 := by
  unfold wplaces
  rw [List.length_map]
  exact Nat.le_trans (List.length_filter_le _ _) (by simp)
theorem wall_lt (f : Nat) : ∀ p ∈ wall f, p < 16 := by
  intro p hp
  unfold wall at hp
  rcases List.mem_append.mp hp with q | q
  · exact wplaces_lt f p q
  · have := (List.mem_filter.mp q).1
    simp at this; omega
theorem wall_len (f : Nat) : (wall f).length ≤ 15 := by
  unfold wall
  rw [List.length_append]
  have h1 := wplaces_len f
  have h2 := List.length_filter_le (fun p => (wchecks f &&& p) != 0) [1, 2, 4, 8]
  simp at h2; omega
theorem wsum_le (l : List Nat) (h : ∀ p ∈ l, p < 16) : (l.map (2 ^ ·)).sum ≤ 32768 * l.length := by
  induction l with
  | nil => simp
  | cons a l ih =>
    have h1 := ih fun p hp => h p (List.mem_cons_of_mem _ hp)
    have h2 : 2 ^ a ≤ 2 ^ 15 := Nat.pow_le_pow_right (by omega) (by have := h a List.mem_cons_self; omega)
    simp only [List.map_cons, List.sum_cons, List.length_cons]; omega
end Mine

open PySem PySem.W PySem.W.X PyProof.Rows PySem.Calls PySem.Spec
set_option Elab.async false
namespace Mine
set_option maxRecDepth 100000
set_option maxHeartbeats 1000000
set_option linter.unusedVariables false
theorem no_pylong {a b : Int} (h : b.natAbs < 2 ^ 30) : Builtin.divisionGoesByPylong a b = false := by
  unfold Builtin.divisionGoesByPylong
  have : ¬ ((if b == 0 then 0 else b.natAbs.log2 / 30 + 1) > 300) := by
    split
    · omega
    · rename_i q
      have hb : b.natAbs ≠ 0 := by intro e; apply q; simpa using e
      have := (Nat.log2_lt hb).mpr h
      omega
  rw [Bool.and_eq_false_iff]; left; exact decide_eq_false this
theorem fmod_toNat (a : Int) (b : Nat) (h : 0 < b) : ((a.fmod b).toNat : Int) = a.fmod b := Int.toNat_of_nonneg (Int.fmod_nonneg_of_pos a (by omega))
def turnA (n : Int) : Nat := (n.fmod 17).toNat
def turnB (n : Int) : Nat := ((n.fdiv 17).fmod 17).toNat
def turned (n : Int) : List Nat := if turnA n = turnB n then [] else [turnA n, turnB n].filter fun p => decide (p < 16)
theorem turnA_eq (n : Int) : ((turnA n : Nat) : Int) = n.fmod 17 := fmod_toNat n 17 (by omega)
theorem turnB_eq (n : Int) : ((turnB n : Nat) : Int) = (n.fdiv 17).fmod 17 := fmod_toNat _ 17 (by omega)
theorem turnA_lt (n : Int) : turnA n < 17 := by
  have := turnA_eq n
  have := Int.fmod_lt_of_pos n (show (0 : Int) < 17 by omega)
  omega
theorem turnB_lt (n : Int) : turnB n < 17 := by
  have := turnB_eq n
  have := Int.fmod_lt_of_pos (n.fdiv 17) (show (0 : Int) < 17 by omega)
  omega
theorem turned_len (n : Int) : (turned n).length ≤ 2 := by
  unfold turned
  split
  · simp
  · exact List.length_filter_le _ _
theorem turned_lt (n : Int) : ∀ p ∈ turned n, p < 16 := by
  unfold turned
  split
  · intro p hp; exact nomatch hp
  · intro p hp; simpa using (List.mem_filter.mp hp).2
end Mine

open PySem PySem.W PySem.W.X PyProof.Rows PySem.Calls PySem.Spec
set_option Elab.async false
namespace Mine
set_option maxRecDepth 100000
set_option maxHeartbeats 1000000
set_option linter.unusedVariables false

theorem walks_done {prog : Program} {w : World} {A : Around} (hh : A.handled = none) (I ax : Addr) (hne : ax ≠ I) (items : Array Value) :
    Walks prog w A I [I, ax] [I] 0 (fun _ _ => False) (fun _ h => h.IsListIter I ax items.size ∧ h.IsList ax items) where
  sub := fun b hb => by simp at hb; simp [hb]
  frame := fun _ _ _ st hk => ⟨st.1.at fun o e => hk I (by simp) o e, st.2.at fun o e => hk ax (by simp) o e⟩
  item := fun i s Q E hi st hQ => absurd hi (Nat.not_lt_zero _)
  done := fun s Q E st hQ => wpAny_pyNext_list_end hh st.1 st.2 (by simp) fun h' he' => hQ h' s.toks fun b o hb e => he' b o (fun h => hb (by simp [h])) e
  self := fun _ _ _ _ st hQ => wpAny_pyIter_listiter st.1 hQ

section
variable {prog : Program} {w : World} {A : Around} {E : Value → Shared → Prop} {s : Shared}
theorem extend_done {R : Result → Shared → Prop} {I ax : Addr} {items : Array Value} (hh : A.handled = none) (hit : s.heap.IsListIter I ax items.size) (hl : s.heap.IsList ax items) (hne : ax ≠ I) (S : Addr) (hSI : S ≠ I) (hSa : S ≠ ax) (res : Value) (c₀ : Nat)
    (hS : s.heap.get? S = some { cls := .type "list", data := .seq #[] c₀ })
    (hR : ∀ h' tk c', (∀ b o, b ≠ S → b ≠ I → s.heap.get? b = some o → h'.get? b = some o) → h'.get? S = some { cls := .type "list", dict := none, data := .seq #[] c', slots := #[] } → R (.ok (.ret res)) { s with heap := h', toks := tk }) :
    wpAny (model prog w) A.in1 (Builtin.List.listExtendWith (.ref S) (.ref I) res)
      (fun fin s' => match fin with | .done f => R (.ok f) s' | .again c' => c'.quiet = true ∧ codeAny (model prog w) A c' R s') (fun e s' => R (.error e) s') s := by
  have W := (walks_done (prog := prog) (w := w) (A := A.in1) hh I ax hne items).toS
  have hT : s.TypeIs (.ref I) "list_iterator" := hit.typeIs
  have hSf : S ∉ [I, ax] := fun hm => by
    rcases List.mem_cons.mp hm with e | hm
    · exact hSI e
    · exact hSa (List.mem_singleton.mp hm)
  have h1 : Builtin.List.listSameRef (.ref S) (.ref I) = false := by simp [Builtin.List.listSameRef, hSI]
  unfold Builtin.List.listExtendWith
  refine wpAny_bind (wpAny_typeOf hT ?_)
  rw [if_neg (by rw [h1]; decide)]
  refine wpAny_bind (W.self 0 _ _ _ ⟨hit, hl⟩ ?_)
  refine wpAny_bind (wpAny_holding ?_)
  unfold Builtin.List.listLengthHint
  refine wpAny_bind (wpAny_specialOf hT F.nolen_li ?_)
  show wpAny _ A.in1 (specialOf (Value.ref I) (Str.ofString "__length_hint__") >>= _) _ _ _
  refine wpAny_bind (wpAny_specialOf hT F.hint_li ?_)
  (generalize hid : ("list_iterator.__length_hint__" : String) = id0; (fail_if_success (clear hid id0)); wp_delta; rw [show splitId id0 = some ("list_iterator", "__length_hint__") from by subst hid; decide +kernel]; subst hid)
  refine wpAny_bind (wpAny_isInstance (b := true) hT (by rw [isSubtype_type]; kernel_rfl) ?_)
  refine wpAny_pure ?_
  rw [if_neg (by decide)]
  refine wpAny_pure ⟨plainId_quiet F.plain_extend_loop _, codeAny_extend_loopS W (Nat.zero_le _) S hSf res 0 0 s #[] c₀ rfl (Nat.zero_le _) ⟨hit, hl⟩ hS (ItemsOf.nil _) fun s' acc' c' hm hS' hacc => ?_⟩
  rw [Moved.eq_with hm]
  have e0 : acc' = #[] := by
    have := hacc.1
    exact Array.eq_empty_of_size_eq_zero this
  rw [e0] at hS'
  refine hR s'.heap s'.toks c' (fun b o hb hi e => hm.heap b o (fun hmem => ?_) e) hS'
  rcases List.mem_cons.mp hmem with e' | hmem
  · exact hb e'
  · exact hi (List.mem_singleton.mp hmem)
theorem call_list_done {Q : Value → Shared → Prop} {I ax : Addr} {items : Array Value} (hh : A.handled = none) (hit : s.heap.IsListIter I ax items.size) (hl : s.heap.IsList ax items) (hne : ax ≠ I)
    (hQ : ∀ D h' tk c', (∀ b o, b ≠ I → s.heap.get? b = some o → h'.get? b = some o) → s.heap.get? D = none →
      h'.get? D = some { cls := .type "list", dict := none, data := .seq #[] c', slots := #[] } → Q (.ref D) { s with heap := h', toks := tk }) :
    wpAny (model prog w) A (call (.type "list") [.ref I]) Q E s := by
  have hIlt : I < s.heap.objs.size := by obtain ⟨o, e, _⟩ := hit; exact Heap.lt_size e
  have halt : ax < s.heap.objs.size := by obtain ⟨o, e, _⟩ := hl; exact Heap.lt_size e
  refine callType_codes (Q₁ := fun obj s₁ => obj = .ref s.heap.objs.size ∧ s₁ = { s with heap := s.heap.push { cls := .type "list", data := .seq #[] } }) F.called_list (F.typeCall_list_1 _) F.entry_list_init
    (code_list_new _ ⟨rfl, rfl⟩) fun obj s₁ h₁ => ?_
  obtain ⟨rfl, rfl⟩ := h₁
  have hS : (s.heap.push { cls := .type "list", data := .seq #[] }).get? s.heap.objs.size = some { cls := .type "list", data := .seq #[] } := Heap.get?_push_size _ rfl
  refine ⟨⟨_, hS, rfl⟩, F.args_list_init_2 _ _, ?_⟩
  show wpAny _ _ (do let old ← Builtin.List.listItems (.ref s.heap.objs.size); Builtin.List.listUpdate (.ref s.heap.objs.size) (fun _ => #[]); letGo old.toList.reverse; Builtin.List.listExtendWith (.ref s.heap.objs.size) (.ref I) .none) _ _ _
  refine wpAny_bind ?_
  unfold Builtin.List.listItems
  refine wpAny_bind (wpAny_seqItems hS rfl (wpAny_pure ?_))
  show wpAny _ _ (updateSeq s.heap.objs.size (fun _ => #[]) >>= fun _ => letGo (#[] : Array Value).toList.reverse >>= fun _ => Builtin.List.listExtendWith (.ref s.heap.objs.size) (.ref I) .none) _ _ _
  refine wpAny_bind (wpAny_updateSeq hS rfl ?_)
  have hS₂ := Heap.get?_update_self (Obj.mapSeq (fun _ => (#[] : Array Value))) hS rfl
  have oth : ∀ b o, b ≠ s.heap.objs.size → s.heap.get? b = some o → ((s.heap.push { cls := .type "list", data := .seq #[] }).update s.heap.objs.size (Obj.mapSeq (fun _ => (#[] : Array Value)))).get? b = some o :=
    fun b o hb e => (Heap.get?_update_other _ _ (Ne.symm hb)).trans (Heap.get?_push_of_some _ e)
  refine wpAny_bind (wpAny_letGo ?_)
  refine extend_done (A := A.in1) hh (hit.at fun o e => oth _ _ (Nat.ne_of_lt hIlt) e) (hl.at fun o e => oth _ _ (Nat.ne_of_lt halt) e) hne _ (Nat.ne_of_gt hIlt) (Nat.ne_of_gt halt) .none _ hS₂ fun h' tk c' hk hS' => ?_
  refine ⟨rfl, hQ _ h' tk c' (fun b o hb e => hk b o (Nat.ne_of_lt (Heap.lt_size e)) hb (oth b o (Nat.ne_of_lt (Heap.lt_size e)) e)) (Heap.get?_none_of_le (Nat.le_refl _)) hS'⟩
end
end Mine

open PySem PySem.W PySem.W.X PyProof.Rows PySem.Calls PySem.Spec
set_option Elab.async false
namespace Mine
set_option maxRecDepth 100000
set_option maxHeartbeats 1000000
set_option linter.unusedVariables false

theorem Nx.rebase {β₀ β₁ β' : View} {h₀ h₁ h' : Heap} (n : Nx β₀ h₀ β₁ h₁) (m : Nx β₁ h₀ β' h') : Nx β₀ h₀ β' h' := by
  refine ⟨m.kp, fun a o e => m.ext _ _ (n.ext _ _ e), m.sub, fun a o e e0 => ?_⟩
  cases q : β₁ a with
  | some o' => exact n.new a o' q e0
  | none => exact m.new a o e q

section
variable {c : Cx} {k : Nat} {env : Env} {ρ : DEnv}
/-- a call by name: the arguments, then the call -/
theorem call_run {x : Str} {p pos : Pos} {e : Expr} {es : List Expr} {f : Value} {ds : List Dat} (g : GN c env x f) (he : EL c k env ρ (e :: es) ds) (hd : (x == ("__debug__" : Str)) = false) {A : Around} {s : Shared} {β : View} {Q : Value → Shared → Prop} (ha : AOk k A) (hb : Base c s.heap) (hs : Sub β s.heap) (V : Vars c env ρ β s.heap)
    (fin : ∀ vs h' β' t, Nx β s.heap β' h' → Rds c β' vs ds → wpAny (model c.prog c.w) A (call f vs) Q (fun _ _ => False) { s with heap := h', toks := t }) :
    wpAny (model c.prog c.w) A (eval (.Call (.Name x p) (e :: es) [] pos) env) Q (fun _ _ => False) s := by
  refine wpAny_Call_Name_kw (g.run hb V ?_ hd)
  show wpAny _ _ (callWith pos f [] (backTo pos (starEach (e :: es) env)) []) _ _ _
  have st := he.star pos
  have run := he.run pos A s β (fun vs s' => wpAny (model c.prog c.w) A (call f vs) Q (fun _ _ => False) s') ha hb hs V fin
  have hst : starEach (e :: es) env = (false, eval e env) :: starEach es env := by cases he with | cons _ h _ => exact h
  cases g with
  | @own a o fd _ l hfd kx =>
    rw [hst] at st ⊢
    refine Calls.callWith_function (o := o) (fd := fd) (evalArgs_plain ?_)
    have := he.run pos A s β (fun vs s' => (s'.heap.get? a = some o ∧ o.data = .func fd) ∧ wpAny (model c.prog c.w) A (call (.ref a) vs) Q (fun _ _ => False) s') ha hb hs V fun vs h' β' t n r => ⟨⟨n.kp _ _ (hb.1 _ _ l), hfd⟩, fin vs h' β' t n r⟩
    rw [hst] at this
    exact this
  | blt =>
    rw [hst] at st run ⊢
    exact Calls.callWith_builtin st (evalArgs_plain run)
  | typ =>
    rw [hst] at st run ⊢
    exact PySem.callWith_type st (evalArgs_plain run)

/-- iter(e) -/
theorem iter_run {nm : Str} {e : Expr} {p pos : Pos} {ds : List Dat} (g : GN c env nm (.builtin "iter")) (he : EV c k env ρ e (.lst ds)) (hst : starEach [e] env = [(false, eval e env)]) (hd : (nm == ("__debug__" : Str)) = false) {A : Around} {s : Shared} {β : View} {Q : Value → Shared → Prop} (ha : AOk k A) (hb : Base c s.heap) (hs : Sub β s.heap) (V : Vars c env ρ β s.heap)
    (h : ∀ a LL vs n h' β' t, Nx β s.heap β' h' → β' LL = some (lstO vs n) → Rds c β' vs ds → s.heap.get? a = none → β' a = none → (∃ o, h'.get? a = some o ∧ itAt LL 0 o) → Q (.ref a) { s with heap := h', toks := t }) :
    wpAny (model c.prog c.w) A (eval (.Call (.Name nm p) [e] [] pos) env) Q (fun _ _ => False) s := by
  refine call_run g (.cons he hst .nil) hd ha hb hs V fun vs h1 β1 t1 n1 r1 => ?_
  obtain ⟨v, vs', rfl, r2, r3⟩ := r1.inv_cons
  cases r3.inv_nil
  obtain ⟨LL, ws, n, rfl, hL, rs⟩ := r2.inv_lst
  refine iter_list (n1.sub _ _ hL) fun a h2 t2 m => ?_
  have hna : h1.get? a = none := (m.nw _ List.mem_cons_self).2
  have kp := mem_kp m
  refine h a LL ws n h2 β1 t2 (n1.trans (Nx.keep n1.sub kp)) hL rs ?_ ?_ ⟨_, (m.nw _ List.mem_cons_self).1, rfl, rfl⟩
  · cases q : s.heap.get? a with
    | none => rfl
    | some o => rw [n1.kp _ _ q] at hna; cases hna
  · cases q : β1 a with
    | none => rfl
    | some o => rw [n1.sub _ _ q] at hna; cases hna

/-- f(iter(e)), where f draws from its argument -/
theorem ev_draw_iter {fn nm : Str} {e : Expr} {p p2 pos pos2 : Pos} {f : Addr} {ds : List Dat} {j' : Nat} {r : Int} (gf : GN c env fn (.ref f)) (g : GN c env nm (.builtin "iter")) (he : EV c k env ρ e (.lst ds)) (hf : FV c k (.ref f) ds 0 j' r)
    (hst : starEach [e] env = [(false, eval e env)] := by rfl) (hd : (nm == ("__debug__" : Str)) = false := by decide) (hd2 : (fn == ("__debug__" : Str)) = false := by decide)
    (hst2 : starEach [.Call (.Name nm p) [e] [] pos] env = [(false, eval (.Call (.Name nm p) [e] [] pos) env)] := by rfl) :
    EV c k env ρ (.Call (.Name fn p2) [.Call (.Name nm p) [e] [] pos] [] pos2) (.int r) := by
  intro A s β Q ha hb hs V hQ
  refine wpAny_Call_Name_kw (gf.run hb V ?_ hd2)
  show wpAny _ _ (callWith pos2 (.ref f) [] (backTo pos2 (starEach [.Call (.Name nm p) [e] [] pos] env)) []) _ _ _
  cases gf with
  | @own _ o fd _ l hfd kx =>
    rw [hst2]
    refine Calls.callWith_function (o := o) (fd := fd) (evalArgs_plain ?_)
    have hm := spliced_more (M := model c.prog c.w) (A := A) (E := fun _ _ => False) (s := s) (pos := pos2) (e := .Call (.Name nm p) [e] [] pos) (rest := []) (env := env)
      (Q := fun vs s' => (s'.heap.get? f = some o ∧ o.data = .func fd) ∧ wpAny (model c.prog c.w) A (call (.ref f) vs) Q (fun _ _ => False) s')
      (iter_run g he hst hd ha hb hs V fun a LL vs n h' β' t n1 hL rs hna hβa hit => ?_) hst2
    · rw [hst2] at hm; exact hm
    · refine spliced_none ⟨⟨n1.kp _ _ (hb.1 _ _ l), hfd⟩, ?_⟩
      refine hf A _ β' s.heap a LL vs n _ ha hb n1.kp n1.sub hβa hna hL rs hit fun t2 h2 tk2 hk2 ho2 => ?_
      refine hQ _ h2 β tk2 (Nx.keep hs fun b o e => hk2 b o (fun q => ?_) (n1.kp _ _ e)) (.int _ _)
      rw [q, hna] at e; cases e

variable {A : Around} {β₀ : View} {h₀ : Heap} {s₀ : Shared} {σ : DEnv} {η : Hid} {K : Flow → Shared → Prop} {rest : List Stmt}
/-- x = iter(e) -/
theorem x_iter {x nm : Str} {e : Expr} {p1 p2 pos spos : Pos} {ds : List Dat} (g : GN c env nm (.builtin "iter")) (he : EV c k env ρ e (.lst ds)) (hσ : σ.lookup x = none) (hx : KindOk env x)
    (h : ∀ β₁ a LL vs n, (∀ β' h', Nx β₁ h₀ β' h' → Nx β₀ h₀ β' h') → β₁ LL = some (lstO vs n) → Rds c β₁ vs ds → SX c k A env β₁ h₀ s₀ ((x, .kref a) :: ρ) σ ((a, itAt LL 0) :: η) rest K)
    (hst : starEach [e] env = [(false, eval e env)] := by rfl) (hd : (nm == ("__debug__" : Str)) = false := by decide) (hs : swapsWith (.Call (.Name nm p2) [e] [] pos) (some (.Name x p1)) spos.line env = pure false := by rfl) :
    SX c k A env β₀ h₀ s₀ ρ σ η (.Assign [.Name x p1] (.Call (.Name nm p2) [e] [] pos) spos :: rest) K := by
  rintro ha hb _ ⟨h', t, β, own, rfl, S⟩
  refine wpAny_execs_cons (wpAny_Assign_Name ?_ hs)
  refine iter_run g he hst hd ha (hb.kp S.nx.kp) S.nx.sub S.vars fun a LL vs n h1 β1 t1 n1 hL rs hna hβa hit => ?_
  have S1 : StB c env β₀ h₀ ρ σ ([(a, itAt LL 0)] ++ η) h1 β1 own := S.hide n1 (fun b hb => by rw [List.mem_singleton.mp hb]; exact ⟨hna, hβa⟩) (by simp) (fun q hq => by rw [List.mem_singleton.mp hq]; exact hit)
  exact store (s := { s₀ with heap := h1, toks := t1 }) S1 (.kref a) hσ hx fun h3 t3 S3 => h β1 a LL vs n (fun β' h' m => S1.nx.rebase m) hL rs ha hb _ ⟨h3, t3, β1, own, rfl, S3.base⟩

/-- a test that may change what is hidden -/
def TX (c : Cx) (k : Nat) (A : Around) (env : Env) (β₀ : View) (h₀ : Heap) (s₀ : Shared) (ρ σ : DEnv) (η : Hid) (e : Expr) (b : Bool) (η' : Hid) : Prop :=
  AOk k A → Base c h₀ → ∀ s', St c env β₀ h₀ ρ σ η s₀ s' → ∀ Q : Bool → Shared → Prop, (∀ s'', St c env β₀ h₀ ρ σ η' s₀ s'' → Q b s'') → wpAny (model c.prog c.w) A (isTrue e env (eval e env)) Q (fun _ _ => False) s'
theorem tx_et {e : Expr} {b : Bool} (ht : ET c k env (ρ ++ σ) e b) : TX c k A env β₀ h₀ s₀ ρ σ η e b η := by
  rintro ha hb _ ⟨h', t, β, own, rfl, S⟩ Q hQ
  exact ht A _ (plus β h' own) _ ha (hb.kp S.nx.kp) S.sub_plus S.vars_plus fun h3 β3 t3 n3 => hQ _ ⟨h3, t3, β, own, rfl, S.later (Nx.keep S.nx.sub n3.kp)⟩
theorem tx_or {e : Expr} {es : List Expr} {pos : Pos} {b : Bool} {η₁ η' : Hid} (h1 : TX c k A env β₀ h₀ s₀ ρ σ η e false η₁) (h2 : TX c k A env β₀ h₀ s₀ ρ σ η₁ (.BoolOp .Or es pos) b η') : TX c k A env β₀ h₀ s₀ ρ σ η (.BoolOp .Or (e :: es) pos) b η' := by
  intro ha hb s' S Q hQ
  exact PyProof.Rows.isTrue_or (h1 ha hb s' S _ fun s'' S' => h2 ha hb s'' S' Q hQ)
theorem x_if_tx {t : Expr} {b1 b2 : List Stmt} {pos : Pos} {η' : Hid} (ht : TX c k A env β₀ h₀ s₀ ρ σ η t false η') (h2 : SX c k A env β₀ h₀ s₀ ρ σ η' b2 (Kseq c A env rest K)) :
    SX c k A env β₀ h₀ s₀ ρ σ η (.If t b1 b2 pos :: rest) K := by
  intro ha hb s' S
  refine wpAny_execs_cons (wpAny_If (ht ha hb s' S _ fun s'' S' => ?_))
  exact wpAny_mono (h2 ha hb _ S') (fun f s' q => by cases f <;> exact q) fun _ _ q => q
/-- list(it) != [] where it is at its end -/
theorem tx_drained {nm it : Str} {p1 p2 p3 p4 pos : Pos} {a LL : Addr} {vs : List Value} {n j : Nat} {ds : List Dat} (g : GN c env nm (.type "list")) (hit : ρ.lookup it = some (.kref a)) (hL : β₀ LL = some (lstO vs n)) (hr : Rds c β₀ vs ds) (hj : j = ds.length)
    (hd1 : (nm == ("__debug__" : Str)) = false := by decide) (hd2 : (it == ("__debug__" : Str)) = false := by decide) (hd3 : (it == ("__classdict__" : Str)) = false := by decide) :
    TX c (k + 3) A env β₀ h₀ s₀ ρ σ ((a, itAt LL j) :: η) (.Compare (.Call (.Name nm p1) [.Name it p2] [] p3) [.NotEq] [.List [] p4] pos) false η := by
  rintro ha hb _ ⟨h', t, β, own, rfl, S⟩ Q hQ
  refine wpAny_isTrue_Compare1 ?_ (by with_unfolding_all rfl)
  refine call_run g (.cons (ev_name hit hd2 hd3) rfl .nil) hd1 ha (hb.kp S.nx.kp) S.nx.sub S.vars fun ws h1 β1 t1 n1 r1 => ?_
  obtain ⟨v, ws', rfl, r2, r3⟩ := r1.inv_cons
  cases r3.inv_nil
  cases r2.inv_kref
  have S1 := S.later n1
  obtain ⟨oa, ea, hc, hdt⟩ := S1.hi _ List.mem_cons_self
  have hβL : β1 LL = some (lstO vs n) := S1.nx.ext _ _ hL
  have haL : LL ≠ a := fun e => by have := S1.pb a (hid_priv List.mem_cons_self); rw [← e, hβL] at this; cases this
  have hlen : j = vs.toArray.size := by rw [List.size_toArray, hr.1, hj]
  refine call_list_done (ax := LL) (items := vs.toArray) ha.hh ⟨oa, ea, hc, by rw [hdt, hlen]⟩ ⟨_, S1.nx.sub _ _ hβL, rfl, n, rfl⟩ haL fun D h2 t2 c2 hk2 hD hD2 => ?_
  have S2 : StB c env β₀ h₀ ρ σ η h2 β1 own := StB.dropHid (hid := [(a, itAt LL j)]) S1 (fun b o hm e => hk2 b o (fun q => hm (by rw [q]; exact List.mem_cons_self)) e)
  have hbase : Base c h2 := hb.kp S2.nx.kp
  refine wpAny_List_spliced ((EL.nil : EL c (k + 3) env ρ [] []).run p4 A _ β1 _ ha hbase S2.nx.sub S2.vars fun zs h3 β3 t3 n3 r4 => ⟨?_, ?_⟩)
  · rw [r4.1, sizeLine_eq]; simp
  cases r4.inv_nil
  have S3 := S2.later n3
  have hl1 : (h3.push (lstO [] 0)).IsList D #[] := ⟨_, Heap.get?_push_of_some _ (n3.kp _ _ hD2), rfl, c2, rfl⟩
  have hl2 : (h3.push (lstO [] 0)).IsList h3.objs.size #[] := ⟨_, Heap.get?_push_size _ rfl, rfl, 0, rfl⟩
  have S4 : StB c env β₀ h₀ ρ σ η (h3.push (lstO [] 0)) β3 own := S3.later (Nx.keep S3.nx.sub fun b o e => Heap.get?_push_of_some _ e)
  exact ne_intsK (ns := []) (ms := []) hl1 .nil hl2 .nil (by have := ha.hu; omega) (wpAny_truthy_bool (hQ _ ⟨_, t3, β3, own, rfl, S4⟩))
end
end Mine

open PySem PySem.W PySem.W.X PyProof.Rows PySem.Calls PySem.Spec
set_option Elab.async false
namespace Mine
set_option maxRecDepth 100000
set_option maxHeartbeats 1000000
set_option linter.unusedVariables false

section
variable {c : Cx} {k : Nat}
def bts (l : List Nat) : List UInt8 := l.map fun n => n.toUInt8
theorem bytesOf_eq (l : List Nat) : bytesOf l = (bts l).toArray := by
  unfold bytesOf byteArr bts
  rw [List.map_map]; rfl
theorem it_bytes_from {l : List Nat} {i : Nat} (hl : l.length ≤ 10000) : IT c k (.byt (bytesOf l)) (.slc (some (i : Nat)) none) (.byt (bytesOf (l.drop i))) := by
  have hs : (bytesOf l).size = l.length := by rw [bytesOf_eq]; simp [bts]
  have e : bytesOf (l.drop i) = KBy.picked (bytesOf l) (some (i : Nat)) none := by
    rw [KBc.picked_eq]
    simp only [Option.elim, clipAt_nat, hs]
    rw [bytesOf_eq, bytesOf_eq]
    unfold bts
    congr 1
    rw [List.map_drop]
    rcases Nat.le_total i l.length with h | h
    · rw [Nat.min_eq_left h, List.take_of_length_le (by simp)]
    · rw [Nat.min_eq_right h, List.drop_of_length_le (by simpa using h), List.drop_of_length_le (by simp)]; simp
  rw [e]
  exact it_slice_bytes (by rw [hs]; exact hl)
theorem it_bytes_upto {l : List Nat} {i : Nat} (hl : l.length ≤ 10000) : IT c k (.byt (bytesOf l)) (.slc none (some (i : Nat))) (.byt (bytesOf (l.take i))) := by
  have hs : (bytesOf l).size = l.length := by rw [bytesOf_eq]; simp [bts]
  have e : bytesOf (l.take i) = KBy.picked (bytesOf l) none (some (i : Nat)) := by
    rw [KBc.picked_eq]
    simp only [Option.elim, clipAt_nat, hs, List.drop_zero, Nat.sub_zero]
    rw [bytesOf_eq, bytesOf_eq]
    unfold bts
    congr 1
    rw [List.map_take]
    rcases Nat.le_total i l.length with h | h
    · rw [Nat.min_eq_left h]
    · rw [Nat.min_eq_right h, List.take_of_length_le (by simpa using h), List.take_of_length_le (by simp)]
  rw [e]
  exact it_slice_bytes (by rw [hs]; exact hl)
theorem bytes_items (l : List Nat) (h : ∀ n ∈ l, n < 256) : ((bytesOf l).toList.map fun x => Dat.int (x.toNat : Int)) = nat l := by
  rw [bytesOf_eq]
  unfold bts nat
  rw [List.map_map]
  apply List.map_congr_left
  intro n hn
  show Dat.int ((n.toUInt8.toNat : Nat) : Int) = _
  rw [show n.toUInt8.toNat = n % 256 from UInt8.toNat_ofNat', Nat.mod_eq_of_lt (h n hn)]
end

/-- the figures' number -/
def val64 (l : List Nat) : Nat := l.foldl (fun v x => v * 64 + x) 0
theorem val64_snoc (l : List Nat) (x : Nat) : val64 (l ++ [x]) = val64 l * 64 + x := by unfold val64; rw [List.foldl_append]; rfl
theorem val64_go (l : List Nat) (h : ∀ x ∈ l, x < 64) : ∀ v, l.foldl (fun v x => v * 64 + x) v < (v + 1) * 64 ^ l.length := by
  induction l with
  | nil => intro v; simp
  | cons a l ih =>
    intro v
    have h1 := ih (fun y hy => h y (List.mem_cons_of_mem _ hy)) (v * 64 + a)
    have h2 := h a List.mem_cons_self
    rw [List.foldl_cons, List.length_cons, Nat.pow_succ]
    refine Nat.lt_of_lt_of_le h1 ?_
    rw [show (v + 1) * (64 ^ l.length * 64) = ((v + 1) * 64) * 64 ^ l.length by rw [Nat.mul_comm (64 ^ l.length) 64, Nat.mul_assoc]]
    exact Nat.mul_le_mul_right _ (by omega)
theorem val64_lt (l : List Nat) (h : ∀ x ∈ l, x < 64) : val64 l < 64 ^ l.length := by
  have := val64_go l h 0
  simpa [val64] using this
/-- the tape that is read -/
def tapeOf (l : List Nat) : List Nat := (l.take (l.length - 1)).map (· + 64) ++ l.drop (l.length - 1)
theorem tape_len (l : List Nat) : (tapeOf l).length = l.length := by unfold tapeOf; simp
theorem tape_at (l : List Nat) (i : Nat) (h : i + 1 < l.length) : (tapeOf l).getD i 0 = l.getD i 0 + 64 := by
  unfold tapeOf
  rw [List.getD_eq_getElem?_getD, List.getElem?_append_left (by simp; omega), List.getElem?_map, List.getElem?_take_of_lt (by omega), List.getD_eq_getElem?_getD, List.getElem?_eq_getElem (by omega)]
  rfl
theorem tape_last (l : List Nat) (i : Nat) (h : i + 1 = l.length) : (tapeOf l).getD i 0 = l.getD i 0 := by
  unfold tapeOf
  rw [List.getD_eq_getElem?_getD, List.getElem?_append_right (by simp; omega), List.getElem?_drop, List.getD_eq_getElem?_getD]
  congr 2
  simp; omega
theorem tape_val (l : List Nat) (h : ∀ x ∈ l, x < 64) : ∀ m, m < l.length → vval (tapeOf l) 0 m = val64 (l.take (m + 1)) := by
  have at0 : ∀ i, i < l.length → (tapeOf l).getD i 0 % 64 = l.getD i 0 := fun i hi => by
    have hx : l.getD i 0 < 64 := by
      rw [List.getD_eq_getElem?_getD, List.getElem?_eq_getElem hi]
      exact h _ (List.getElem_mem hi)
    rcases Nat.lt_or_ge (i + 1) l.length with q | q
    · rw [tape_at l i q]; omega
    · rw [tape_last l i (by omega)]; omega
  have snoc : ∀ m, m < l.length → l.take (m + 1) = l.take m ++ [l.getD m 0] := fun m hm => by
    rw [List.take_add_one, List.getElem?_eq_getElem hm, List.getD_eq_getElem?_getD, List.getElem?_eq_getElem hm]; rfl
  intro m
  induction m with
  | zero => intro hm; unfold vval; rw [at0 0 hm, snoc 0 hm, val64_snoc]; simp [val64]
  | succ m ih => intro hm; unfold vval; rw [ih (by omega), Nat.zero_add, at0 _ hm, snoc (m + 1) hm, val64_snoc]
theorem tape_bit (l : List Nat) (h : ∀ x ∈ l, x < 64) (i : Nat) (hi : i < l.length) : ((tapeOf l).getD i 0).testBit 6 = decide (i + 1 < l.length) := by
  have hx : l.getD i 0 < 64 := by
    rw [List.getD_eq_getElem?_getD, List.getElem?_eq_getElem hi]
    exact h _ (List.getElem_mem hi)
  rcases Nat.lt_or_ge (i + 1) l.length with q | q
  · rw [tape_at l i q, decide_eq_true q]
    generalize l.getD i 0 = x at hx
    rw [Nat.testBit_eq_decide_div_mod_eq, decide_eq_true_eq]
    omega
  · rw [tape_last l i (by omega), decide_eq_false (by omega)]
    exact Nat.testBit_lt_two_pow (by omega)

/-- the alphabet read back -/
def unal (s : Nat) : Nat := (((List.range 64).map fun i => (al i, i)).lookup s).getD 0
theorem al_table : ∀ f, f < 64 → ((List.range 64).map fun i => (al i, i)).lookup (al f) = some f := by decide +kernel
theorem unal_al {f : Nat} (h : f < 64) : unal (al f) = f := by unfold unal; rw [al_table f h]; rfl
theorem table_lookup (l : List (Nat × Nat)) (s : Nat) : (l.map fun p => ((p.1 : Int), Dat.int (p.2 : Nat))).lookup ((s : Nat) : Int) = (l.lookup s).map fun n => Dat.int (n : Nat) := by
  induction l with
  | nil => rfl
  | cons p l ih =>
    rw [List.map_cons, List.lookup_cons, show p = (p.1, p.2) from rfl, List.lookup_cons, ih]
    have : (((s : Nat) : Int) == ((p.1 : Nat) : Int)) = (s == p.1) := by
      rw [Bool.eq_iff_iff, beq_iff_eq, beq_iff_eq]; omega
    rw [this]
    cases s == p.1 <;> rfl
theorem table_hit {f : Nat} (h : f < 64) : ((List.range 64).map fun i => (((al i : Nat) : Int), Dat.int ((i : Nat) : Int))).lookup ((al f : Nat) : Int) = some (.int ((unal (al f) : Nat) : Int)) := by
  have := table_lookup ((List.range 64).map fun i => (al i, i)) (al f)
  rw [List.map_map, al_table f h] at this
  rw [unal_al h]
  exact this
theorem al_nodup : ((List.range 64).map fun i => ((al i : Nat) : Int)).Nodup := by decide +kernel
theorem mul_ok {a b : Int} (h : a.natAbs < 2 ^ 60) : IntMulOk a b := IntMulOk.of_left (PySem.intBits_le_64 (by omega) (by omega))
theorem fmodN (a : Int) (b : Nat) (h : 0 < b) : a.fmod b = a % b := Int.fmod_eq_emod_of_nonneg _ (by omega)

theorem rng_size (n : Nat) : Builtin.Range.rangeSize 0 n 1 = (n : Int) := by
  unfold Builtin.Range.rangeSize
  simp only [show (1 : Int) > 0 by decide, if_true]
  split <;> omega
theorem fits_small {i : Int} (h0 : -1 ≤ i) (h1 : i ≤ 1000000) : Builtin.Range.rangeFitsLong i = true := by
  unfold Builtin.Range.rangeFitsLong
  rw [Bool.and_eq_true, decide_eq_true_eq, decide_eq_true_eq]
  omega
theorem rng_small {n : Nat} (h : n ≤ 100000) : Builtin.Range.small 0 n 1 = true := by
  unfold Builtin.Range.small
  rw [rng_size, if_pos (by decide), fits_small (by omega) (by omega), fits_small (by omega) (by omega), fits_small (by omega) (by omega), fits_small (by omega) (by omega)]
  simp
section
variable {c : Cx} {k : Nat}
theorem co_in_neg {l : List Nat} : CO c k .In (.int (-1)) (.lst (nat l)) false := by
  have e : ((l.map fun (n : Nat) => (n : Int)).any (· == -1)) = false := by
    rw [List.any_eq_false]
    intro x hx
    obtain ⟨n, _, rfl⟩ := List.mem_map.mp hx
    simp
  rw [nat_ints, ← e]
  exact co_in_ints
end
/-- the line's shape -/
theorem pad_ok (n : Nat) : ((-(n : Int)).fmod 4).toNat = (4 - n % 4) % 4 := by
  rw [Int.fmod_eq_emod_of_nonneg _ (by omega)]; omega
theorem pads_eq (n : Nat) : (List.replicate n [(61 : UInt8)]).flatten = bts (List.replicate n 61) := by
  unfold bts
  rw [List.map_replicate]
  induction n with
  | zero => rfl
  | succ n ih => rw [List.replicate_succ, List.replicate_succ, List.flatten_cons, ih]; rfl
def lineOf (figs : List Nat) (pad : Nat) : List Nat := figs.map al ++ List.replicate pad 61
theorem line_lt (figs : List Nat) (pad : Nat) : ∀ x ∈ lineOf figs pad, x < 256 := by
  intro x hx
  rcases List.mem_append.mp hx with q | q
  · obtain ⟨y, _, rfl⟩ := List.mem_map.mp q; exact al_lt y
  · rw [(List.mem_replicate.mp q).2]; decide
theorem line_drop (figs : List Nat) (pad : Nat) : (lineOf figs pad).drop figs.length = List.replicate pad 61 := by
  unfold lineOf; rw [List.drop_append_of_le_length (by simp), List.drop_of_length_le (by simp)]; rfl
theorem line_take (figs : List Nat) (pad : Nat) : (lineOf figs pad).take figs.length = figs.map al := by
  unfold lineOf; rw [List.take_append_of_le_length (by simp), List.take_of_length_le (by simp)]
theorem line_len (figs : List Nat) (pad : Nat) : (lineOf figs pad).length = figs.length + pad := by unfold lineOf; simp
theorem figs_back (figs : List Nat) (h : ∀ x ∈ figs, x < 64) : (figs.map al).map unal = figs := by
  rw [List.map_map]
  conv => rhs; rw [← List.map_id figs]
  apply List.map_congr_left
  intro x hx
  exact unal_al (h x hx)
theorem shr_nat (v s : Nat) : (v : Int).fdiv (2 ^ ((s : Nat) : Int).toNat) = ((v / 2 ^ s : Nat) : Int) := by
  rw [Int.toNat_natCast, show ((2 : Int) ^ s) = ((2 ^ s : Nat) : Int) by push_cast; rfl, fdiv_nat]
theorem and_ffff (v : Nat) : Builtin.bitAnd (v : Int) 65535 = ((v % 65536 : Nat) : Int) := by
  rw [show (65535 : Int) = ((65535 : Nat) : Int) from rfl, band_nat, show (65535 : Nat) = 2 ^ 16 - 1 by rfl, Nat.and_two_pow_sub_one_eq_mod]
end Mine

open PySem PySem.W PySem.W.X PyProof.Rows PySem.Calls PySem.Spec
set_option Elab.async false
namespace Mine
set_option maxRecDepth 100000
set_option maxHeartbeats 1000000
set_option linter.unusedVariables false
/-- the figures of a deed, as _law_digits writes them -/
def figF (d : Nat) : Nat → List Nat
  | 0 => [d % 64]
  | i + 1 => (d / 64 ^ (i + 1) % 64 + 64) :: figF d i
def figN (d : Nat) : Nat := if d < 64 then 0 else if d < 4096 then 1 else 2
def digs (d : Nat) : List Nat := ((figF d (figN d)).getD 0 0 + 128) :: (figF d (figN d)).drop 1
theorem figF_len (d : Nat) : ∀ i, (figF d i).length = i + 1
  | 0 => rfl
  | i + 1 => by unfold figF; rw [List.length_cons, figF_len d i]
theorem figN_go {d i : Nat} (h : i < figN d) : 63 < d / 64 ^ i := by
  unfold figN at h
  split at h
  · omega
  · split at h
    · have : i = 0 := by omega
      subst this; simp; omega
    · have : i = 0 ∨ i = 1 := by omega
      rcases this with rfl | rfl
      · simp; omega
      · simp; omega
theorem figN_stop {d : Nat} (h : d < 16384) : d / 64 ^ figN d ≤ 63 := by
  unfold figN
  split
  · simp; omega
  · split
    · simp; omega
    · simp; omega
theorem figN_le (d : Nat) : figN d ≤ 2 := by unfold figN; split; omega; split <;> omega
theorem digs_len (d : Nat) : (digs d).length ≤ 3 := by
  unfold digs
  rw [List.length_cons, List.length_drop, figF_len]
  have := figN_le d; omega
theorem fig_head (d i : Nat) : (nat (figF d i))[((0 : Nat) : Int).toNat]? = some (.int ((figF d i).getD 0 0 : Nat)) := by
  have h : 0 < (figF d i).length := by rw [figF_len]; omega
  show (nat (figF d i))[0]? = _
  unfold nat
  rw [List.getElem?_map, List.getElem?_eq_getElem h, List.getD_eq_getElem?_getD, List.getElem?_eq_getElem h]; rfl
end Mine

open PySem PySem.W PySem.W.X PyProof.Rows PySem.Calls PySem.Spec
set_option Elab.async false
namespace Mine
set_option maxRecDepth 100000
set_option maxHeartbeats 1000000
set_option linter.unusedVariables false

/-- the pairs of a dict display -/
inductive EP (c : Cx) (k : Nat) (env : Env) (ρ : DEnv) : List (Option Expr) → List Expr → List (Str × Dat) → Prop
  | nil : EP c k env ρ [] [] []
  | cons {ke ve : Expr} {ks : List (Option Expr)} {vs : List Expr} {x : Str} {d : Dat} {l : List (Str × Dat)} : EV c k env ρ ke (.str x) → EV c k env ρ ve d → EP c k env ρ ks vs l → EP c k env ρ (some ke :: ks) (ve :: vs) ((x, d) :: l)

def RdP (c : Cx) (β : View) (kvs : List (Str × Value)) (l : List (Str × Dat)) : Prop := kvs.map (·.1) = l.map (·.1) ∧ ∀ (i : Nat) v d, kvs[i]? = some v → l[i]? = some d → Rd c β v.2 d.2
theorem RdP.mono {c : Cx} {β β' : View} {kvs : List (Str × Value)} {l : List (Str × Dat)} (hx : Ext β β') (h : RdP c β kvs l) : RdP c β' kvs l := ⟨h.1, fun i v d h1 h2 => (h.2 i v d h1 h2).mono hx⟩
theorem RdP.cons {c : Cx} {β : View} {x : Str} {v : Value} {d : Dat} {kvs : List (Str × Value)} {l : List (Str × Dat)} (r : Rd c β v d) (h : RdP c β kvs l) : RdP c β ((x, v) :: kvs) ((x, d) :: l) := by
  refine ⟨by rw [List.map_cons, List.map_cons, h.1], fun i v' d' h1 h2 => ?_⟩
  cases i with
  | zero => simp at h1 h2; subst h1; subst h2; exact r
  | succ i => exact h.2 i v' d' (by simpa using h1) (by simpa using h2)
theorem RdP.snoc {c : Cx} {β : View} {x : Str} {v : Value} {d : Dat} {kvs : List (Str × Value)} {l : List (Str × Dat)} (h : RdP c β kvs l) (r : Rd c β v d) : RdP c β (kvs ++ [(x, v)]) (l ++ [(x, d)]) := by
  have hl : kvs.length = l.length := by have := congrArg List.length h.1; simpa using this
  refine ⟨by rw [List.map_append, List.map_append, h.1]; rfl, fun i v' d' h1 h2 => ?_⟩
  rcases Nat.lt_trichotomy i kvs.length with q | q | q
  · rw [List.getElem?_append_left q] at h1
    rw [List.getElem?_append_left (hl ▸ q)] at h2
    exact h.2 i v' d' h1 h2
  · subst q
    simp at h1; subst h1
    rw [hl] at h2; simp at h2; subst h2; exact r
  · exfalso
    have : (kvs ++ [(x, v)])[i]? = none := List.getElem?_eq_none (by simp; omega)
    rw [this] at h1; cases h1

theorem stored_end {K : Type} [DecidableEq K] {kvs : List (K × Value)} {x : K} {y : Value} (h : x ∉ kvs.map (·.1)) : stored kvs x y = kvs ++ [(x, y)] := by
  unfold stored
  rw [if_neg]
  intro q
  obtain ⟨kv, hm, e⟩ := List.any_eq_true.mp q
  exact h (List.mem_map.mpr ⟨kv, hm, of_decide_eq_true e⟩)
theorem merged_new {K : Type} [DecidableEq K] (more : List (K × Value)) : ∀ kvs : List (K × Value), ((kvs ++ more).map (·.1)).Nodup → merged kvs more = kvs ++ more := by
  induction more with
  | nil => intro kvs _; simp [merged]
  | cons p more ih =>
    intro kvs hn
    have e : merged kvs (p :: more) = merged (stored kvs p.1 p.2) more := rfl
    have hp : p.1 ∉ kvs.map (·.1) := by
      rw [List.map_append, List.nodup_append] at hn
      exact fun hm => hn.2.2 p.1 hm p.1 (by simp) rfl
    rw [e, stored_end hp, ih _ (by rw [List.append_assoc]; exact hn), List.append_assoc]; rfl

section
variable {c : Cx} {k : Nat} {env : Env} {ρ : DEnv}
theorem EP.shape {ks : List (Option Expr)} {vs : List Expr} {l : List (Str × Dat)} (h : EP c k env ρ ks vs l) : ks.all (·.isSome) = true ∧ ks.length = vs.length ∧ ks.length = l.length := by
  induction h with
  | nil => exact ⟨rfl, rfl, rfl⟩
  | cons _ _ _ ih => exact ⟨by simpa using ih.1, by simp [ih.2.1], by simp [ih.2.2]⟩
theorem EP.run {ks : List (Option Expr)} {vs : List Expr} {l : List (Str × Dat)} (h : EP c k env ρ ks vs l) (pos : Pos) : ∀ (A : Around) (s : Shared) (β : View) (Q : List (Value × Value) → Shared → Prop), AOk k A → Base c s.heap → Sub β s.heap → Vars c env ρ β s.heap →
    (∀ ps kvs h' β' t, Nx β s.heap β' h' → Carries (strKind c.prog c.w) ps kvs → RdP c β' kvs l → Q ps { s with heap := h', toks := t }) → wpAny (model c.prog c.w) A (evalPairs (pairTrees ks vs env pos)) Q (fun _ _ => False) s := by
  induction h with
  | nil => exact fun A s β Q ha hb hs V hQ => pairTrees_nil_walk (hQ [] [] s.heap β s.toks (Nx.refl hs) trivial ⟨rfl, fun i v d h => by simp at h⟩)
  | cons hk hv _ ih =>
    intro A s β Q ha hb hs V hQ
    refine pairTrees_cons_walk (hk A s β _ ha hb hs V fun kv h1 β1 t1 n1 r1 => hv A _ β1 _ ha (hb.kp n1.kp) n1.sub (V.nx n1) fun vv h2 β2 t2 n2 r2 => ?_)
    obtain ⟨tk, rfl⟩ := r1.inv_str
    refine ih A _ β2 _ ha ((hb.kp n1.kp).kp n2.kp) n2.sub ((V.nx n1).nx n2) fun ps kvs h3 β3 t3 n3 hc r3 => ?_
    exact hQ _ ((_, vv) :: kvs) h3 β3 t3 ((n1.trans n2).trans n3) ⟨strKind_is _ _ _ _, rfl, hc⟩ (r3.cons (r2.mono n3.ext))
theorem sys_small {h : Heap} (hb : Base c h) : (h.objs.size == sysModules) = false := by
  obtain ⟨o, _, _, e, _⟩ := hb.2.g
  have h1 : mainGlobals < h.objs.size := Heap.lt_size e
  have h2 : sysModules < mainGlobals := by decide
  have : h.objs.size ≠ sysModules := Nat.ne_of_gt (Nat.lt_trans h2 h1)
  simpa using this
/-- {..}, new -/
theorem dict_run {ks : List (Option Expr)} {vs : List Expr} {l : List (Str × Dat)} {pos : Pos} (he : EP c k env ρ ks vs l) (h0 : ks ≠ []) (hlen : l.length ≤ 15) (hnd : (l.map (·.1)).Nodup) {A : Around} {s : Shared} {β : View} {Q : Value → Shared → Prop} (ha : AOk k A) (hb : Base c s.heap) (hs : Sub β s.heap) (V : Vars c env ρ β s.heap)
    (hQ : ∀ D o kvs h' β' t, Nx β s.heap β' h' → s.heap.get? D = none → β' D = none → (D == sysModules) = false → h'.get? D = some o → o.IsDictOf (strKind c.prog c.w) kvs → RdP c β' kvs l → Q (.ref D) { s with heap := h', toks := t }) :
    wpAny (model c.prog c.w) A (eval (.Dict ks vs pos) env) Q (fun _ _ => False) s := by
  obtain ⟨e1, e2, e3⟩ := he.shape
  have n0 : Nx β s.heap β (s.heap.push { cls := .type "dict", data := .dict #[] }) := Nx.keep hs fun b o e => Heap.get?_push_of_some _ e
  have hD : s.heap.get? s.heap.objs.size = none := Heap.get?_none_of_le (Nat.le_refl _)
  have hpush : (s.heap.push { cls := .type "dict", data := .dict #[] }).get? s.heap.objs.size = some { cls := .type "dict", data := .dict #[] } := Heap.get?_push_size _ rfl
  refine wpAny_Dict_walk (knd := strKind c.prog c.w) e1 e2 h0 (by omega) (he.run pos A _ β _ ha (hb.kp n0.kp) n0.sub (V.nx n0) fun ps kvs h1 β1 t1 n1 hc r1 => ?_)
  have hn : (kvs.map (·.1)).Nodup := by rw [r1.1]; exact hnd
  have hm : merged [] kvs = kvs := by have := merged_new kvs [] (by simpa using hn); simpa using this
  refine ⟨kvs, hc, ?_, fun h' hd hsame => ?_⟩
  · refine ⟨_, #[], 0, n1.kp _ _ hpush, ⟨rfl, rfl, rfl⟩, rfl, fun e he => by simp at he, .nil, by simp⟩
  · rw [hm] at hd
    obtain ⟨o, ho, hid⟩ := Heap.dictOf_iff.mp hd
    have hβ1 : β1 s.heap.objs.size = none := by
      cases q : β1 s.heap.objs.size with
      | none => rfl
      | some ob =>
        exfalso
        cases q2 : β s.heap.objs.size with
        | none => have := n1.new _ _ q q2; rw [hpush] at this; cases this
        | some ob' => rw [hs _ _ q2] at hD; cases hD
    have oth : ∀ b o', b ≠ s.heap.objs.size → h1.get? b = some o' → h'.get? b = some o' := fun b o' ne e => (hsame.2 b ne).trans e
    refine hQ _ o kvs h' β1 _ ⟨fun b o' e => oth b o' (Nat.ne_of_lt (Heap.lt_size e)) (n1.kp _ _ (n0.kp _ _ e)), n1.ext, fun b o' e => oth b o' (fun q => by rw [q, hβ1] at e; cases e) (n1.sub _ _ e), fun b o' e e0 => ?_⟩ hD hβ1 (sys_small hb) ho hid r1
    have := n1.new b o' e e0
    cases q : s.heap.get? b with
    | none => rfl
    | some o2 => rw [n0.kp _ _ q] at this; cases this
/-- {..}, shown to all -/
theorem ev_dict {ks : List (Option Expr)} {vs : List Expr} {l : List (Str × Dat)} {pos : Pos} (he : EP c k env ρ ks vs l) (h0 : ks ≠ []) (hlen : l.length ≤ 15) (hnd : (l.map (·.1)).Nodup) : EV c k env ρ (.Dict ks vs pos) (.dS l) := by
  intro A s β Q ha hb hs V hQ
  refine dict_run he h0 hlen hnd ha hb hs V fun D o kvs h' β' t n hD hβ hz ho hid r => ?_
  have n' : Nx β s.heap (fun x => if x = D then some o else β' x) h' := by
    refine ⟨n.kp, fun x o' q => ?_, fun x o' q => ?_, fun x o' q z => ?_⟩
    · by_cases hx : x = D
      · subst hx; rw [hs _ _ q] at hD; cases hD
      · rw [if_neg hx]; exact n.ext _ _ q
    · by_cases hx : x = D
      · subst hx; rw [if_pos rfl] at q; cases q; exact ho
      · rw [if_neg hx] at q; exact n.sub _ _ q
    · by_cases hx : x = D
      · subst hx; exact hD
      · rw [if_neg hx] at q; exact n.new _ _ q z
  have hx : Ext β' (fun x => if x = D then some o else β' x) := fun x o' q => by
    by_cases hx : x = D
    · subst hx; rw [hβ] at q; cases q
    · show (if x = D then some o else β' x) = _; rw [if_neg hx]; exact q
  exact hQ _ h' _ t n' (.dS hz (by simp) hid r.1 fun i v d h1 h2 => (r.2 i v d h1 h2).mono hx)

variable {A : Around} {β₀ : View} {h₀ : Heap} {s₀ : Shared} {σ : DEnv} {η : Hid} {K : Flow → Shared → Prop} {rest : List Stmt}
/-- x = {..}, the frame's own -/
theorem x_own_dict {x : Str} {p' spos : Pos} {ks : List (Option Expr)} {vs : List Expr} {l : List (Str × Dat)} {pos : Pos} (he : EP c k env ρ ks vs l) (h0 : ks ≠ []) (hlen : l.length ≤ 15) (hnd : (l.map (·.1)).Nodup) (hρ : ρ.lookup x = none) (hσ : σ.lookup x = none) (hx : KindOk env x)
    (h : SX c k A env β₀ h₀ s₀ ρ ((x, .dS l) :: σ) η rest K) (hs : swapsWith (.Dict ks vs pos) (some (.Name x p')) spos.line env = pure false := by rfl) : SX c k A env β₀ h₀ s₀ ρ σ η (.Assign [.Name x p'] (.Dict ks vs pos) spos :: rest) K := by
  rintro ha hb _ ⟨h', t, β, own, rfl, S⟩
  refine wpAny_execs_cons (wpAny_Assign_Name (dict_run he h0 hlen hnd ha (hb.kp S.nx.kp) S.nx.sub S.vars fun D o kvs h1 β1 t1 n1 hD hβ hz ho hid r => ?_) hs)
  have S1 := S.later n1
  refine own_put (d := .dS l) S1 (fun hm => ?_) hβ ?_ ⟨o, kvs, hz, ho, hid, r.1, r.2⟩ hρ hσ hx fun h2 t2 S2 => h ha hb _ ⟨h2, t2, β1, D :: own, rfl, S2⟩
  · obtain ⟨o', e⟩ := S.mem_get hm; rw [hD] at e; cases e
  · cases q : h₀.get? D with
    | none => rfl
    | some o' => rw [S.nx.kp _ _ q] at hD; cases hD
/-- x[i] = e on the frame's own dict, a new key -/
theorem x_setitem {x : Str} {px p' pos : Pos} {ie e : Expr} {key : Str} {d : Dat} {l : List (Str × Dat)} {i : Nat} (hi : σ[i]? = some (x, .dS l)) (he : EV c k env ρ e d) (hie : EV c k env ρ ie (.str key)) (hk : key ∉ l.map (·.1)) (hl : l.length ≤ 1000)
    (h : SX c k A env β₀ h₀ s₀ ρ (σ.set i (x, .dS (l ++ [(key, d)]))) η rest K)
    (hdbg : (x == ("__debug__" : Str)) = false := by decide) (hcd : (x == ("__classdict__" : Str)) = false := by decide) (hs : swapsWith e (some (.Subscript (.Name x px) ie p')) pos.line env = pure false := by rfl) :
    SX c k A env β₀ h₀ s₀ ρ σ η (.Assign [.Subscript (.Name x px) ie p'] e pos :: rest) K := by
  rintro ha hb _ ⟨h', t, β, own, rfl, S⟩
  refine wpAny_execs_cons (wpAny_Assign_Subscript ?_ hs)
  refine he A _ β _ ha (hb.kp S.nx.kp) S.nx.sub S.vars fun v h1 β1 t1 n1 r1 => ?_
  have S1 := S.later n1
  have li : i < σ.length := (List.getElem?_eq_some_iff.mp hi).1
  have lo : i < own.length := by rw [← S1.ol]; exact li
  have hown : own[i]? = some own[i] := List.getElem?_eq_getElem lo
  obtain ⟨lk, o, kvs, hz, ho, hid, rm, rr⟩ := S1.ow i x _ own[i] hi hown
  have hlen : kvs.length = l.length := by have := congrArg List.length rm; simpa using this
  have fin : wpAny (model c.prog c.w) A (eval ie env) (fun iv s₃ => wpAny (model c.prog c.w) A (setItem (.ref own[i]) iv v) (fun _ => Kseq c A env rest K .next) (fun _ _ => False) s₃) (fun _ _ => False) { s₀ with heap := h1, toks := t1 } := by
    refine hie A _ β1 _ ha (hb.kp S1.nx.kp) S1.nx.sub S1.vars fun iv h2 β2 t2 n2 r2 => ?_
    obtain ⟨tk, rfl⟩ := r2.inv_str
    have S2 := S1.later n2
    refine wpAny_setItem_pairs (knd := strKind c.prog c.w) (k := key) (strKind_is _ _ _ _) (Heap.dictOf_iff.mpr ⟨o, n2.kp _ _ ho, hid⟩) (fun h3 hd3 hs3 => ?_) (by rw [hlen, sizeLine_eq]; omega)
    rw [stored_end (by rw [rm]; exact hk)] at hd3
    obtain ⟨o3, ho3, hid3⟩ := Heap.dictOf_iff.mp hd3
    have rp : RdP c β2 (kvs ++ [(key, v)]) (l ++ [(key, d)]) := RdP.snoc ⟨rm, fun i v d h1 h2 => (rr i v d h1 h2).mono n2.ext⟩ (r1.mono n2.ext)
    exact h ha hb _ ⟨h3, _, β2, own, rfl, S2.setOwn hi hown (fun b o ne e => (hs3.2 b ne).trans e) ⟨o3, _, hz, ho3, hid3, rp.1, rp.2⟩⟩
  rcases lk with ⟨e1, m, nn, q⟩ | ⟨e1 | e1, ad, l, q⟩
  · exact wpAny_Name (wpAny_loadName_local S1.vars.fk e1 nn q fin) hdbg
  · exact wpAny_Name (wpAny_loadName_cell S1.vars.fk e1 l q fin) hdbg
  · exact wpAny_Name (wpAny_loadName_free S1.vars.fk e1 l q fin hcd) hdbg
/-- an owned name is let go -/
theorem St.drop {x : Str} {d : Dat} {s' : Shared} (S : St c env β₀ h₀ ρ ((x, d) :: σ) η s₀ s') : St c env β₀ h₀ ρ σ η s₀ s' := by
  obtain ⟨h, t, β, own, rfl, S⟩ := S
  cases own with
  | nil => have := S.ol; simp at this
  | cons a own =>
    have sub : ∀ b, b ∈ priv env (own ++ η.map (·.1)) → b ∈ priv env (a :: own ++ η.map (·.1)) := fun b hb => by
      unfold priv at *
      simp only [List.mem_cons, List.mem_append] at hb ⊢
      rcases hb with q | q | q | q
      · exact .inl q
      · exact .inr (.inl q)
      · exact .inr (.inr (.inl (.inr q)))
      · exact .inr (.inr (.inr q))
    refine ⟨h, t, β, own, rfl, S.nx, S.vars, ?_, fun b hb => S.pb b (sub b hb), fun b hb => S.p0 b (sub b hb), S.fr, S.cl, by have := S.ol; simpa using this, fun i y e b h1 h2 => S.ow (i + 1) y e b (by simpa using h1) (by simpa using h2), S.hi, S.fc⟩
    have pd := S.pd
    unfold priv at pd ⊢
    refine List.Nodup.sublist ?_ pd
    exact List.Sublist.cons_cons _ (List.Sublist.append (List.Sublist.refl _) (List.Sublist.append (List.sublist_cons_self _ _) (List.Sublist.refl _)))
theorem x_drop {x : Str} {d : Dat} {ss : List Stmt} (h : SX c k A env β₀ h₀ s₀ ρ σ η ss K) : SX c k A env β₀ h₀ s₀ ρ ((x, d) :: σ) η ss K := fun ha hb s' S => h ha hb s' S.drop
theorem it_lastOf {ds : List Dat} {d : Dat} (hl : ds.length ≤ 10000) (hd : ds[ds.length - 1]? = some d) : IT c k (.lst ds) (.int (-1)) d := by
  refine ⟨"list", _, list_getitem_lookup, fun A s β v vi Q ha hb hs r ri hQ => ?_⟩
  obtain ⟨a, vs, n, rfl, hβ, rs⟩ := r.inv_lst
  obtain ⟨t, rfl⟩ := ri.inv_int
  obtain ⟨w, hw, rw'⟩ := rs.get hd
  have hlt := (List.getElem?_eq_some_iff.mp hw).1
  have hL : s.heap.IsList a vs.toArray := ⟨_, hs _ _ hβ, rfl, n, rfl⟩
  refine ⟨hL.typeIs, wpAny_getItem_list_neg hL (by omega) ?_ (by omega) ?_ (hQ w s.heap β s.toks (Nx.refl hs) rw')⟩
  · rw [List.size_toArray]; omega
  · rw [List.size_toArray, rs.1, show ((-1 : Int) + (ds.length : Nat)).toNat = ds.length - 1 by omega]; simpa using hw
end
end Mine

open PySem PySem.W PySem.W.X PyProof.Rows PySem.Calls PySem.Spec
set_option Elab.async false
namespace Mine
set_option maxRecDepth 100000
set_option maxHeartbeats 1000000
set_option linter.unusedVariables false
/-- what a deed does -/
def runShift (r : Nat) : Nat := 6 - 3 * (r / 3 % 3)
def runFrom (r : Nat) : Nat := 6 - 3 * (r % 3)
def runStep (m d : Nat) : Nat :=
  if d % 4 = 0 then m ||| d / 4
  else if d % 4 = 1 then m - (m &&& d / 4)
  else if d % 4 = 2 then m ^^^ d / 4
  else m + m / 2 ^ runFrom (d / 4) % 8 * 2 ^ runShift (d / 4) - m / 2 ^ runShift (d / 4) % 8 * 2 ^ runShift (d / 4)
def runF (m : Nat) (ds : List Nat) : Nat := ds.foldl runStep m
theorem runF_succ (m : Nat) (ds : List Nat) (i d : Nat) (h : ds[i]? = some d) : runF m (ds.take (i + 1)) = runStep (runF m (ds.take i)) d := by
  unfold runF
  rw [List.take_add_one, h, List.foldl_append]; rfl
theorem and_le_left (a b : Nat) : a &&& b ≤ a := Nat.and_le_left
theorem sub_and (m r : Nat) : (m : Int) - ((m &&& r : Nat) : Int) = ((m - (m &&& r) : Nat) : Int) := by
  have := and_le_left m r; omega
theorem and7 (v : Nat) : Builtin.bitAnd (v : Int) 7 = ((v % 8 : Nat) : Int) := by
  rw [show (7 : Int) = ((7 : Nat) : Int) from rfl, band_nat, show (7 : Nat) = 2 ^ 3 - 1 by rfl, Nat.and_two_pow_sub_one_eq_mod]
theorem copy_le (m s : Nat) : m / 2 ^ s % 8 * 2 ^ s ≤ m := by
  have h1 : m / 2 ^ s % 8 ≤ m / 2 ^ s := Nat.mod_le _ _
  exact Nat.le_trans (Nat.mul_le_mul_right _ h1) (Nat.div_mul_le_self _ _)
theorem copy_eq (m t s : Nat) : (m : Int) + (((t : Nat) : Int) - ((m / 2 ^ s % 8 : Nat) : Int)) * ((2 ^ s : Nat) : Int) = ((m + t * 2 ^ s - m / 2 ^ s % 8 * 2 ^ s : Nat) : Int) := by
  have := copy_le m s
  rw [Int.sub_mul, Int.ofNat_sub (by omega)]
  push_cast
  omega
theorem fdivL (a b : Nat) (c : Int) (h : c = ((b : Nat) : Int)) : (a : Int).fdiv c = ((a / b : Nat) : Int) := by rw [h, fdiv_nat]
theorem fmodL (a b : Nat) (c : Int) (h : c = ((b : Nat) : Int)) : (a : Int).fmod c = ((a % b : Nat) : Int) := by rw [h, fmod_nat]
theorem eqL (a : Nat) (b : Nat) (c : Int) (h : c = ((b : Nat) : Int)) : ((a : Int) == c) = decide (a = b) := by
  rw [h, Bool.eq_iff_iff, beq_iff_eq, decide_eq_true_eq]; omega
end Mine

open PySem PySem.W PySem.W.X PyProof.Rows PySem.Calls PySem.Spec
set_option Elab.async false
namespace Mine
set_option maxRecDepth 100000
set_option maxHeartbeats 1000000
set_option linter.unusedVariables false
/-- the signs of the nine places -/
def rwxC (n : Nat) : Nat := [114, 119, 120].getD (n % 3) 0
def letC (n : Nat) : Nat := [115, 115, 116].getD (n / 3) 0
def upC (n : Nat) : Nat := [83, 83, 84].getD (n / 3) 0
def one (ch : Nat) : Str := ⟨#[ch]⟩
theorem rwx_at : ∀ n, n < 9 → (Str.ofString "rwx").cps[((n % 3 : Nat) : Int).toNat]? = some (rwxC n) := by decide +kernel
theorem sst_at : ∀ n, n < 9 → (Str.ofString "sst").cps[((n / 3 : Nat) : Int).toNat]? = some (letC n) := by decide +kernel
theorem up_at : ∀ n, n < 9 → Txt.upper (one (letC n)) = one (upC n) := by decide +kernel
theorem mean_two : ∀ n, n < 9 → [Str.ofString "-", one (rwxC n)].Nodup := by decide +kernel
theorem mean_three : ∀ n, n < 9 → one (letC n) ∉ [Str.ofString "-", one (rwxC n)] := by decide +kernel
theorem mean_four : ∀ n, n < 9 → one (upC n) ∉ [Str.ofString "-", one (rwxC n), one (letC n)] := by decide +kernel
/-- what a sign at a place stands for -/
def mean2 (n : Nat) : List (Str × Nat) := [(Str.ofString "-", 0), (one (rwxC n), 2 ^ (8 - n))]
def mean4 (n : Nat) : List (Str × Nat) := mean2 n ++ [(one (letC n), 2 ^ (8 - n) + 2 ^ (11 - n / 3))] ++ [(one (upC n), 2 ^ (11 - n / 3))]
def meanL (n : Nat) : List (Str × Nat) := if n % 3 = 2 then mean4 n else mean2 n
def meanV (n : Nat) (ch : Nat) : Nat := ((meanL n).lookup (one ch)).getD 65536
def rightsTo (x : Str) (i : Nat) : Nat := ((List.range i).map fun n => meanV n (x.cps.getD (n + 1) 0)).sum
def datP (l : List (Str × Nat)) : List (Str × Dat) := l.map fun p => (p.1, Dat.int ((p.2 : Nat) : Int))
theorem datP_get (l : List (Str × Nat)) (x : Str) (n : Nat) : ((datP l).lookup x).getD (.int ((n : Nat) : Int)) = .int (((l.lookup x).getD n : Nat) : Int) := by
  unfold datP
  induction l with
  | nil => rfl
  | cons p l ih =>
    rw [List.map_cons, List.lookup_cons, show p = (p.1, p.2) from rfl, List.lookup_cons]
    cases x == p.1 with
    | true => rfl
    | false => exact ih
theorem rightsTo_succ (x : Str) (i : Nat) : rightsTo x (i + 1) = rightsTo x i + meanV i (x.cps.getD (i + 1) 0) := by
  unfold rightsTo
  rw [List.range_succ, List.map_append, List.sum_append]; simp
theorem sign_at {x : Str} {n : Nat} (h : n + 1 < x.cps.size) : x.cps[((n : Int) + 1).toNat]? = some (x.cps.getD (n + 1) 0) := by
  rw [show ((n : Int) + 1).toNat = n + 1 by omega, Array.getElem?_eq_getElem h, Array.getD_eq_getD_getElem?, Array.getElem?_eq_getElem h]; rfl
end Mine

open PySem PySem.W PySem.W.X PyProof.Rows PySem.Calls PySem.Spec
set_option Elab.async false
namespace Mine
set_option maxRecDepth 100000
set_option maxHeartbeats 1000000
set_option linter.unusedVariables false
theorem sum_le_mul (l : List Str) (B : Nat) (h : ∀ y ∈ l, y.length ≤ B) : (l.map (·.length)).sum ≤ B * l.length := by
  induction l with
  | nil => simp
  | cons a l ih =>
    have h1 := ih fun y hy => h y (List.mem_cons_of_mem _ hy)
    have h2 := h a List.mem_cons_self
    rw [List.map_cons, List.sum_cons, List.length_cons, Nat.mul_succ]; omega
theorem nms_small (f : Nat) {n : Nat} (hn : n ≤ 32) : ∀ y ∈ nmsTo f n, y.length ≤ 20 := fun y hy => by
  unfold nmsTo at hy
  obtain ⟨i, hi, rfl⟩ := List.mem_map.mp hy
  exact flagNm_len i (by have := List.mem_range.mp (List.mem_filter.mp hi).1; omega)
theorem join_small (f : Nat) {n : Nat} (hn : n ≤ 32) : (Txt.join ", " (nmsTo f n)).length ≤ 10000 := by
  have h1 := sum_le_mul _ 20 (nms_small f hn)
  have h2 := nmsTo_len f n
  have h3 : (Txt.join ", " (nmsTo f n)).length = _ := size_glued ", " (nmsTo f n)
  have h4 : (", " : Str).length = 2 := by decide
  rw [h3, h4]; omega
theorem join_okN (f : Nat) {n : Nat} (hn : n ≤ 32) : JoinOk ", " (nmsTo f n) = true := by
  unfold JoinOk
  rw [Bool.not_eq_true']
  refine PySem.StrLaws.joinFits (B := 20) (nms_small f hn) ?_
  have h2 := nmsTo_len f n
  have h4 : (", " : Str).length = 2 := by decide
  rw [h4]; omega
theorem flagNm_pos : ∀ i, i < 32 → 5 ≤ (flagNm i).length := by decide +kernel
theorem join_pos (f : Nat) {n : Nat} (hn : n ≤ 32) (hf : f < 2 ^ n) (h0 : f ≠ 0) : 5 ≤ (Txt.join ", " (nmsTo f n)).length := by
  refine Nat.le_trans ?_ (len_join_ge_sum ", " (nmsTo f n))
  have hb := tab_bit h0
  have hl : f.log2 < n := (Nat.log2_lt h0).mpr hf
  have hm : flagNm f.log2 ∈ nmsTo f n := by
    unfold nmsTo
    exact List.mem_map.mpr ⟨f.log2, List.mem_filter.mpr ⟨List.mem_range.mpr hl, hb⟩, rfl⟩
  have h5 := flagNm_pos f.log2 (by omega)
  have : ∀ (l : List Str) (y : Str), y ∈ l → y.length ≤ (l.map (·.length)).sum := by
    intro l y hy
    induction l with
    | nil => exact nomatch hy
    | cons a l ih =>
      rw [List.map_cons, List.sum_cons]
      rcases List.mem_cons.mp hy with rfl | q
      · omega
      · have := ih q; omega
  exact Nat.le_trans h5 (this _ _ hm)
theorem nms_12 {f : Nat} (h : f < 4096) : nmsTo f 16 = nmsTo f 12 := nmsTo_end (i := 11) (by omega) 4
theorem pf_12 {f : Nat} (h : f < 4096) (h0 : f ≠ 0) : pf f = Txt.join ", " (nmsTo f 12) := by
  unfold pf pfl; rw [if_neg h0, nms_12 h]
theorem pf_zero : pf 0 = Str.ofString "0x0" := by decide +kernel
def tabW : List Str := (List.range 12).map flagNm
theorem tabW_at : ∀ i, i < 12 → tabW[((i : Nat) : Int).toNat]? = some (flagNm i) := by decide +kernel
end Mine

open PySem PySem.W PySem.W.X PyProof.Rows PySem.Calls PySem.Spec
set_option Elab.async false
namespace Mine
set_option maxRecDepth 100000
set_option maxHeartbeats 1000000
set_option linter.unusedVariables false
/-- what _law_told tells -/
def bitN (a p : Nat) : Nat := a / 2 ^ p % 2
def tb (as : List Nat) (i p : Nat) : Nat := bitN (as.getD i 0) p
def tsrc (as : List Nat) (p : Nat) : Nat := ((List.range 4).map fun j => (tb as (2 + j) p ^^^ tb as 0 p) * 2 ^ j).sum
def toldBit (as : List Nat) (r p : Nat) : Nat := tb as 0 p ^^^ ((tb as 0 p ^^^ tb as 1 p) &&& (r / 2 ^ tsrc as p))
def toldTo (as : List Nat) (r i : Nat) : Nat := ((List.range i).map fun p => toldBit as r p * 2 ^ p).sum
theorem toldTo_succ (as : List Nat) (r i : Nat) : toldTo as r (i + 1) = toldTo as r i + toldBit as r i * 2 ^ i := by
  unfold toldTo
  rw [List.range_succ, List.map_append, List.sum_append]; simp
theorem bitN_lt (a p : Nat) : bitN a p < 2 := Nat.mod_lt _ (by omega)
theorem and1N (a : Nat) : Builtin.bitAnd (a : Int) 1 = ((a % 2 : Nat) : Int) := by
  rw [show (1 : Int) = ((1 : Nat) : Int) from rfl, band_nat, Nat.and_one_is_mod]
theorem xor_lt2 {a b : Nat} (ha : a < 2) (hb : b < 2) : a ^^^ b < 2 := Nat.xor_lt_two_pow (n := 1) ha hb
theorem tb_lt (as : List Nat) (i p : Nat) : tb as i p < 2 := bitN_lt _ _
theorem tsrc_le (as : List Nat) (p : Nat) : tsrc as p ≤ 15 := by
  unfold tsrc
  have h0 := xor_lt2 (tb_lt as (2 + 0) p) (tb_lt as 0 p)
  have h1 := xor_lt2 (tb_lt as (2 + 1) p) (tb_lt as 0 p)
  have h2 := xor_lt2 (tb_lt as (2 + 2) p) (tb_lt as 0 p)
  have h3 := xor_lt2 (tb_lt as (2 + 3) p) (tb_lt as 0 p)
  simp only [List.range_succ, List.range_zero, List.map_append, List.map_cons, List.map_nil, List.sum_append, List.sum_cons, List.sum_nil, List.nil_append]
  omega
theorem and_lt2 {a b : Nat} (ha : a < 2) : a &&& b < 2 := Nat.lt_of_le_of_lt Nat.and_le_left ha
theorem toldBit_lt (as : List Nat) (r p : Nat) : toldBit as r p < 2 := xor_lt2 (tb_lt _ _ _) (and_lt2 (xor_lt2 (tb_lt _ _ _) (tb_lt _ _ _)))
theorem bits_at {as : List Nat} {p i : Nat} (h : i < as.length) (j : Int) (hj : j = ((i : Nat) : Int)) : (nat (as.map (bitN · p)))[j.toNat]? = some (.int ((tb as i p : Nat) : Int)) := by
  subst hj
  unfold nat tb
  rw [Int.toNat_natCast, List.getElem?_map, List.getElem?_map, List.getElem?_eq_getElem h, List.getD_eq_getElem?_getD, List.getElem?_eq_getElem h]; rfl
theorem shl_nat (a s : Nat) : (a : Int) * 2 ^ ((s : Nat) : Int).toNat = ((a * 2 ^ s : Nat) : Int) := by
  rw [Int.toNat_natCast]; push_cast; rfl
end Mine

open PySem PySem.W PySem.W.X PyProof.Rows PySem.Calls PySem.Spec
set_option Elab.async false
namespace Mine
set_option maxRecDepth 100000
set_option maxHeartbeats 1000000
set_option linter.unusedVariables false
section
variable {c : Cx} {k : Nat} {env : Env} {ρ : DEnv} {A : Around} {β₀ : View} {h₀ : Heap} {s₀ : Shared} {σ : DEnv} {η : Hid} {K : Flow → Shared → Prop} {rest : List Stmt}
theorem fs_range3 {m n st : Int} (h0 : st ≠ 0) (hp : Builtin.divisionGoesByPylong (n - m) st = false) : FS c k (.type "range") [.int m, .int n, .int st] (.rng m n st) := by
  intro A s β vs Q ha hb hs r hQ
  obtain ⟨v, vs', rfl, r1, r2⟩ := r.inv_cons
  obtain ⟨v', vs'', rfl, r3, r4⟩ := r2.inv_cons
  obtain ⟨v'', vs''', rfl, r5, r6⟩ := r4.inv_cons
  cases r6.inv_nil
  obtain ⟨t, rfl⟩ := r1.inv_int
  obtain ⟨t', rfl⟩ := r3.inv_int
  obtain ⟨t'', rfl⟩ := r5.inv_int
  exact call_range_3 h0 (hQ _ _ _ _ (push_nx hs rfl) (.rng put_at)) (.inl hp)
/-- an owned object is shown to all -/
theorem St.freeze {x : Str} {d : Dat} {s' : Shared} (S : St c env β₀ h₀ ρ ((x, d) :: σ) η s₀ s') : St c env β₀ h₀ ((x, d) :: ρ) σ η s₀ s' := by
  obtain ⟨h, t, β, own, rfl, S⟩ := S
  cases own with
  | nil => have := S.ol; simp at this
  | cons a own =>
    have ham : a ∈ priv env (a :: own ++ η.map (·.1)) := own_priv List.mem_cons_self
    have sub : ∀ b, b ∈ priv env (own ++ η.map (·.1)) → b ∈ priv env (a :: own ++ η.map (·.1)) := fun b hb => by
      unfold priv at *
      simp only [List.mem_cons, List.mem_append] at hb ⊢
      rcases hb with q | q | q | q
      · exact .inl q
      · exact .inr (.inl q)
      · exact .inr (.inr (.inl (.inr q)))
      · exact .inr (.inr (.inr q))
    have ne : ∀ b, b ∈ priv env (own ++ η.map (·.1)) → b ≠ a := fun b hb e => by
      subst e
      have pd := S.pd
      unfold priv at pd hb
      rw [List.nodup_cons, List.nodup_append, List.cons_append, List.nodup_cons] at pd
      rcases List.mem_cons.mp hb with q | q
      · exact pd.1 (by rw [← q]; exact List.mem_append_right _ List.mem_cons_self)
      · rcases List.mem_append.mp q with q | q
        · exact pd.2.2.2 b q b List.mem_cons_self rfl
        · exact pd.2.2.1.1 q
    have hβa : β a = none := S.pb a ham
    have hext : Ext β (fun b => if b = a then h.get? a else β b) := fun b o e => by
      by_cases q : b = a
      · subst q; rw [hβa] at e; cases e
      · show (if b = a then h.get? a else β b) = _; rw [if_neg q]; exact e
    obtain ⟨l0, o0⟩ := S.ow 0 x d a rfl rfl
    refine ⟨h, t, fun b => if b = a then h.get? a else β b, own, rfl, ⟨S.nx.kp, fun b o e => hext _ _ (S.nx.ext _ _ e), fun b o e => ?_, fun b o e e0 => ?_⟩, ⟨S.vars.fk, S.vars.gl, S.vars.bl, fun y e he => ?_⟩, ?_, fun b hb => ?_, fun b hb => S.p0 b (sub b hb), S.fr, S.cl, by have := S.ol; simpa using this, fun i y e b h1 h2 => ?_, S.hi, S.fc⟩
    · by_cases q : b = a
      · subst q; rw [if_pos rfl] at e; exact e
      · rw [if_neg q] at e; exact S.nx.sub _ _ e
    · by_cases q : b = a
      · subst q; exact S.p0 b ham
      · rw [if_neg q] at e; exact S.nx.new _ _ e e0
    · rw [List.lookup_cons] at he
      split at he
      · rename_i q
        cases he
        rw [eq_of_beq q]
        exact ⟨.ref a, o0.rd hext (by simp), l0⟩
      · obtain ⟨v, r, l⟩ := S.vars.at' y e he
        exact ⟨v, r.mono hext, l⟩
    · have pd := S.pd
      unfold priv at pd ⊢
      refine List.Nodup.sublist ?_ pd
      exact List.Sublist.cons_cons _ (List.Sublist.append (List.Sublist.refl _) (List.Sublist.append (List.sublist_cons_self _ _) (List.Sublist.refl _)))
    · show (if b = a then h.get? a else β b) = none
      rw [if_neg (ne b hb)]; exact S.pb b (sub b hb)
    · obtain ⟨l, o⟩ := S.ow (i + 1) y e b (by simpa using h1) (by simpa using h2)
      exact ⟨l, o.at hext rfl⟩
theorem x_freeze {x : Str} {d : Dat} {ss : List Stmt} (h : SX c k A env β₀ h₀ s₀ ((x, d) :: ρ) σ η ss K) : SX c k A env β₀ h₀ s₀ ρ ((x, d) :: σ) η ss K := fun ha hb s' S => h ha hb s' S.freeze
end
end Mine

open PySem PySem.W PySem.W.X PyProof.Rows PySem.Calls PySem.Spec
set_option Elab.async false
namespace Mine
set_option maxRecDepth 100000
set_option maxHeartbeats 1000000
set_option linter.unusedVariables false
/-- the octets of the quads -/
def trip (v : Nat) : List Nat := [v / 65536, v / 256 % 256, v % 256]
def quad (l : List Nat) (j : Nat) : List Nat := (l.drop (4 * j)).take 4
def octTo (l : List Nat) (i : Nat) : List Nat := (List.range i).flatMap fun j => trip (val64 (quad l j))
theorem octTo_succ (l : List Nat) (i : Nat) : octTo l (i + 1) = octTo l i ++ trip (val64 (quad l i)) := by
  unfold octTo; rw [List.range_succ, List.flatMap_append]; simp
theorem octTo_len (l : List Nat) (i : Nat) : (octTo l i).length = 3 * i := by
  induction i with
  | zero => rfl
  | succ i ih => rw [octTo_succ, List.length_append, ih]; unfold trip; simp; omega
theorem quad_len {l : List Nat} {j : Nat} (h : 4 * j + 4 ≤ l.length) : (quad l j).length = 4 := by unfold quad; simp; omega
theorem quad_lt {l : List Nat} (h : ∀ x ∈ l, x < 64) (j : Nat) : ∀ x ∈ quad l j, x < 64 := fun x hx => h x (List.mem_of_mem_drop (List.mem_of_mem_take hx))
theorem quad_front (l : List Nat) (j : Nat) : (quad l j).take 3 = (l.drop (4 * j)).take 3 := by unfold quad; rw [List.take_take]; rfl
theorem quad_back (l : List Nat) (j : Nat) : (quad l j).drop 3 = (l.drop (4 * j + 3)).take 1 := by
  unfold quad
  rw [List.drop_take, List.drop_drop]
theorem rng4_size (g : Nat) : Builtin.Range.rangeSize 0 ((4 * g : Nat) : Int) 4 = (g : Int) := by
  unfold Builtin.Range.rangeSize
  simp only [show (4 : Int) > 0 by decide, if_true]
  split <;> omega
theorem rng4_small {g : Nat} (h : g ≤ 10000) : Builtin.Range.small 0 ((4 * g : Nat) : Int) 4 = true := by
  unfold Builtin.Range.small
  rw [rng4_size, if_pos (by decide), fits_small (by omega) (by omega), fits_small (by omega) (by omega), fits_small (by omega) (by omega), fits_small (by omega) (by omega), fits_small (by omega) (by omega)]
  simp
theorem and255 (v : Nat) : Builtin.bitAnd (v : Int) 255 = ((v % 256 : Nat) : Int) := by
  rw [show (255 : Int) = ((255 : Nat) : Int) from rfl, band_nat, show (255 : Nat) = 2 ^ 8 - 1 by rfl, Nat.and_two_pow_sub_one_eq_mod]
theorem shr_lit (v s : Nat) (c : Int) (h : c = ((s : Nat) : Int)) : (v : Int).fdiv (2 ^ c.toNat) = ((v / 2 ^ s : Nat) : Int) := by subst h; exact shr_nat v s
theorem nat_app (a b : List Nat) : nat a ++ nat b = nat (a ++ b) := by unfold nat; rw [List.map_append]
theorem nat_rep (n x : Nat) : List.replicate n (Dat.int ((x : Nat) : Int)) = nat (List.replicate n x) := by unfold nat; rw [List.map_replicate]
section
variable {c : Cx} {k : Nat}
theorem co_eq_nat {a b : List Nat} : CO c (k + 3) .Eq (.lst (nat a)) (.lst (nat b)) (decide (a = b)) := by
  rw [nat_ints, nat_ints]
  have e : decide ((a.map fun (n : Nat) => (n : Int)) = (b.map fun (n : Nat) => (n : Int))) = decide (a = b) := by
    apply decide_eq_decide.mpr
    exact ⟨fun h => List.map_inj_right (fun x y h => by omega) |>.mp h, fun h => by rw [h]⟩
  rw [← e]
  exact co_eq_ints
theorem co_ne_nat {a b : List Nat} : CO c (k + 3) .NotEq (.lst (nat a)) (.lst (nat b)) (!decide (a = b)) := by
  rw [nat_ints, nat_ints]
  have e : decide ((a.map fun (n : Nat) => (n : Int)) = (b.map fun (n : Nat) => (n : Int))) = decide (a = b) := by
    apply decide_eq_decide.mpr
    exact ⟨fun h => List.map_inj_right (fun x y h => by omega) |>.mp h, fun h => by rw [h]⟩
  rw [← e]
  exact co_ne_ints
theorem it_run_nat {l : List Nat} {i j : Nat} {a b : Int} (ha : a = ((i : Nat) : Int)) (hb : b = ((j : Nat) : Int)) (hl : l.length ≤ 10000) (hij : i ≤ j) (hj : j ≤ l.length) : IT c k (.lst (nat l)) (.slc (some a) (some b)) (.lst (nat ((l.drop i).take (j - i)))) := by
  subst ha; subst hb
  have := it_run (c := c) (k := k) (ds := nat l) (i := i) (j := j) (by rw [nat_len]; exact hl) hij (by rw [nat_len]; exact hj)
  rw [show ((nat l).drop i).take (j - i) = nat ((l.drop i).take (j - i)) by unfold nat; rw [List.map_take, List.map_drop]] at this
  exact this
theorem it_from_nat {l : List Nat} {i : Nat} {a : Int} (ha : a = ((i : Nat) : Int)) (hl : l.length ≤ 10000) : IT c k (.lst (nat l)) (.slc (some a) none) (.lst (nat (l.drop i))) := by
  subst ha
  have := it_from (c := c) (k := k) (ds := nat l) (i := (i : Int)) (by rw [nat_len]; exact hl) (by omega)
  rw [show (nat l).drop ((i : Nat) : Int).toNat = nat (l.drop i) by unfold nat; rw [List.map_drop, Int.toNat_natCast]] at this
  exact this
theorem it_upto_nat {l : List Nat} {i : Nat} {a : Int} (ha : a = ((i : Nat) : Int)) (hl : l.length ≤ 10000) : IT c k (.lst (nat l)) (.slc none (some a)) (.lst (nat (l.take i))) := by
  subst ha
  have := it_upto (c := c) (k := k) (ds := nat l) (i := (i : Int)) (by rw [nat_len]; exact hl) (by omega)
  rw [show (nat l).take ((i : Nat) : Int).toNat = nat (l.take i) by unfold nat; rw [List.map_take, Int.toNat_natCast]] at this
  exact this
end
end Mine

open PySem PySem.W PySem.W.X PyProof.Rows PySem.Calls PySem.Spec
set_option Elab.async false
namespace Mine
set_option maxRecDepth 100000
set_option maxHeartbeats 1000000
set_option linter.unusedVariables false
section
variable {c : Cx} {k : Nat} {env : Env} {ρ : DEnv}
/-- two clauses over ints, no tests, the inner name given out -/
theorem comp2_cb {elt iter2 : Expr} {x y : Str} {px py : Pos} {scope : Scope} {cl : List (Str × Addr)} {ρc : DEnv} {l : List Nat} {L : Nat → List Nat} (hx : scope.names.lookup x = some .local) (hy : scope.names.lookup y = some .local) (hρx : ρc.lookup x = none) (hρy : ∀ n, ((x, Dat.int ((n : Nat) : Int)) :: ρc).lookup y = none)
    (hi2 : ∀ C n, n ∈ l → EI c k (compEnvC scope cl C env) ((x, .int (n : Nat)) :: ρc) (.Name y py) iter2 (nat (L n)))
    (he : ∀ C n m, n ∈ l → m ∈ L n → EV c k (compEnvC scope cl C env) ((y, .int (m : Nat)) :: (x, .int (n : Nat)) :: ρc) elt (.int (m : Nat))) :
    ∀ C, CB c k (compEnvC scope cl C env) elt (.Name x px) [] [⟨.Name y py, iter2, [], 0⟩] ρc (nat l) (gI fun n => nat (L n)) := by
  intro C d hd
  unfold nat at hd
  obtain ⟨n, hn, rfl⟩ := List.mem_map.mp hd
  refine ⟨(x, .int (n : Nat)) :: ρc, true, ak_name hρx (.inl (lookup_relabel_local hx)), ts_nil, (fun h => nomatch h), fun _ => ?_⟩
  refine ⟨nat (L n), gI fun m => [.int (m : Nat)], hi2 C n hn, ?_, fun d' hd' => ?_⟩
  · show nat (L ((n : Int).toNat)) = _
    rw [Int.toNat_natCast, gI_nat]
    unfold nat
    induction L n with
    | nil => rfl
    | cons a r ih => simp only [List.map_cons, List.flatMap_cons, ih]; rfl
  · unfold nat at hd'
    obtain ⟨m, hm, rfl⟩ := List.mem_map.mp hd'
    refine ⟨(y, .int (m : Nat)) :: (x, .int (n : Nat)) :: ρc, true, ak_name (hρy n) (.inl (lookup_relabel_local hy)), ts_nil, (fun h => nomatch h), fun _ => ⟨.int (m : Nat), ?_, he C n m hn hm⟩⟩
    show [Dat.int ((((m : Int).toNat : Nat)) : Int)] = _
    rw [Int.toNat_natCast]
theorem comp2_out (l : List Nat) (L : Nat → List Nat) : (nat l).flatMap (gI fun n => nat (L n)) = nat (l.flatMap L) := by
  rw [gI_nat]
  induction l with
  | nil => rfl
  | cons a r ih => rw [List.flatMap_cons, List.flatMap_cons, ih, nat_app]
theorem ev_comp2 {elt iter iter2 : Expr} {x y : Str} {px py : Pos} {scope : Scope} {pos : Pos} {cl : List (Str × Addr)} (ρc : DEnv) (l : List Nat) (L : Nat → List Nat)
    (hi : EI c k env ρ (.Name x px) iter (nat l)) (hok : CompOk env scope cl ρ ρc) (hx : scope.names.lookup x = some .local) (hy : scope.names.lookup y = some .local) (hρx : ρc.lookup x = none) (hρy : ∀ n, ((x, Dat.int ((n : Nat) : Int)) :: ρc).lookup y = none)
    (hi2 : ∀ C n, n ∈ l → EI c k (compEnvC scope cl C env) ((x, .int (n : Nat)) :: ρc) (.Name y py) iter2 (nat (L n)))
    (he : ∀ C n m, n ∈ l → m ∈ L n → EV c k (compEnvC scope cl C env) ((y, .int (m : Nat)) :: (x, .int (n : Nat)) :: ρc) elt (.int (m : Nat)))
    (hlen : (l.flatMap L).length ≤ 10000) (hfold : ∀ env' x, foldedSetIterable iter env' x = pure x) (hfold2 : ∀ env' x, foldedSetIterable iter2 env' x = pure x) :
    EV c k env ρ (.ListComp elt [⟨.Name x px, iter, [], 0⟩, ⟨.Name y py, iter2, [], 0⟩] scope pos) (.lst (nat (l.flatMap L))) := by
  have e := comp2_out l L
  rw [← nat_len, ← e] at hlen
  rw [← e]
  exact ev_comp ρc (nat l) (gI fun n => nat (L n)) hi hok.clos hok.cell hok.kind hok.names hok.cap hok.cov (comp2_cb hx hy hρx hρy hi2 he) hlen (fun g hg => by
    rcases List.mem_cons.mp hg with rfl | hg
    · exact ⟨rfl, hfold⟩
    · rw [List.mem_singleton.mp hg]; exact ⟨rfl, hfold2⟩)
variable {A : Around} {β₀ : View} {h₀ : Heap} {s₀ : Shared} {σ : DEnv} {η : Hid} {K : Flow → Shared → Prop} {rest : List Stmt}
theorem x_assign_comp2 {z : Str} {pz spos : Pos} {elt iter iter2 : Expr} {x y : Str} {px py : Pos} {scope : Scope} {pos : Pos} {cl : List (Str × Addr)} (ρc : DEnv) (l : List Nat) (L : Nat → List Nat)
    (hi : EI c k env ρ (.Name x px) iter (nat l)) (hok : CompOk env scope cl ρ ρc) (hx : scope.names.lookup x = some .local) (hy : scope.names.lookup y = some .local) (hρx : ρc.lookup x = none) (hρy : ∀ n, ((x, Dat.int ((n : Nat) : Int)) :: ρc).lookup y = none)
    (hi2 : ∀ C n, n ∈ l → EI c k (compEnvC scope cl C env) ((x, .int (n : Nat)) :: ρc) (.Name y py) iter2 (nat (L n)))
    (he : ∀ C n m, n ∈ l → m ∈ L n → EV c k (compEnvC scope cl C env) ((y, .int (m : Nat)) :: (x, .int (n : Nat)) :: ρc) elt (.int (m : Nat)))
    (hlen : (l.flatMap L).length ≤ 10000) (hfold : ∀ env' x, foldedSetIterable iter env' x = pure x) (hfold2 : ∀ env' x, foldedSetIterable iter2 env' x = pure x)
    (hσ : σ.lookup z = none) (hz : KindOk env z) (hsw : swapsWith (.ListComp elt [⟨.Name x px, iter, [], 0⟩, ⟨.Name y py, iter2, [], 0⟩] scope pos) (some (.Name z pz)) spos.line env = pure true)
    (h : SX c k A env β₀ h₀ s₀ ((z, .lst (nat (l.flatMap L))) :: ρ) σ η rest K) :
    SX c k A env β₀ h₀ s₀ ρ σ η (.Assign [.Name z pz] (.ListComp elt [⟨.Name x px, iter, [], 0⟩, ⟨.Name y py, iter2, [], 0⟩] scope pos) spos :: rest) K := by
  have e := comp2_out l L
  rw [← nat_len, ← e] at hlen
  rw [← e] at h
  exact x_assign_comp ρc (nat l) (gI fun n => nat (L n)) hi hok.clos hok.cell hok.kind hok.names hok.cap hok.cov (comp2_cb hx hy hρx hρy hi2 he) hlen (fun g hg => by
    rcases List.mem_cons.mp hg with rfl | hg
    · exact ⟨rfl, hfold⟩
    · rw [List.mem_singleton.mp hg]; exact ⟨rfl, hfold2⟩) hσ hz hsw h

/-- a comprehension whose element draws from an iterator: the loop -/
theorem draw_loop {fn it x : Str} {p2 p3 pos2 px : Pos} {iter : Expr} {scope : Scope} {pos : Pos} {D f a LL : Addr} {vs : List Value} {n : Nat} {ds0 ds : List Dat} {js : Nat → Nat} {rs : Nat → Int} (ha : AOk k A) (hb : Base c h₀) (g : GN c env fn (.ref f)) (hL : β₀ LL = some (lstO vs n)) (hr : Rds c β₀ vs ds0)
    (hit0 : ρ.lookup it = some (.kref a)) (hxρ : ρ.lookup x = none) (hkx : KindOk env x) (hf : ∀ i, i < ds.length → FV c k (.ref f) ds0 (js i) (js (i + 1)) (rs i))
    (hd1 : (fn == ("__debug__" : Str)) = false) (hd2 : (it == ("__debug__" : Str)) = false) (hd3 : (it == ("__classdict__" : Str)) = false)
    (β1 : View) (I : Addr) (It : Nat → Hid) (adrs : List Addr) (hit : Iter c k (.Name x px) β1 I It ds adrs) (hadr : ∀ i, (It i).map (·.1) = adrs) :
    ∀ (m i : Nat), i + m = ds.length → ∀ (out0 : List Dat) (h2 : Heap) (t2 : Nat) (β2 : View) (R : Result → Shared → Prop), Ext β1 β2 →
    StB c env β₀ h₀ ρ [] ((D, accP c β2 out0) :: (It i ++ [(a, itAt LL (js i))])) h2 β2 [] → out0.length + m ≤ 10000 →
    (∀ h' t' β', Ext β2 β' → StB c env β₀ h₀ ρ [] ((D, accP c β' (out0 ++ (List.range m).map fun q => Dat.int (rs (i + q)))) :: [(a, itAt LL (js ds.length))]) h' β' [] → R (.ok .next) { s₀ with heap := h', toks := t' }) →
    codeAny (model c.prog c.w) A (.compLoop (.ListComp (.Call (.Name fn p2) [.Name it p3] [] pos2) [⟨.Name x px, iter, [], 0⟩] scope pos) 0 (.ref I) (.ref D) env) R { s₀ with heap := h2, toks := t2 } := by
  intro m
  induction m with
  | zero =>
    intro i him out0 h2 t2 β2 R hx2 S2 hlen hR
    have him : i = ds.length := by omega
    subst him
    have S2' : StB c env β₀ h₀ ρ [] (It ds.length ++ ((D, accP c β2 out0) :: [(a, itAt LL (js ds.length))])) h2 β2 [] := S2.perm List.perm_middle.symm
    refine comp_turn_last rfl rfl (wpAny_mono (hit.done A _ β2 (fun s1 => R (.ok .next) s1) ha (hb.kp S2.nx.kp) hx2 S2.nx.sub (fun p hp => S2'.hi p (List.mem_append_left _ hp)) (fun h3 t3 hk3 => ?_)) (fun r s1 q => ?_) fun _ _ q => q)
    · have S3 := S2'.dropHid (h' := h3) fun b o hm e => hk3 b o (by rw [hadr] at hm; exact hm) e
      exact hR h3 t3 β2 (fun _ _ e => e) (by simpa using S3)
    · obtain ⟨rfl, q⟩ := q; exact q
  | succ m ih =>
    intro i him out0 h2 t2 β2 R hx2 S2 hlen hR
    have hlt : i < ds.length := by omega
    have pdx := S2.pd
    unfold priv at pdx
    rw [List.nodup_cons, List.nodup_append] at pdx
    have h3' := pdx.2.2.1
    simp only [List.nil_append, List.map_cons, List.map_append, List.nodup_cons, List.map_nil] at h3'
    have hDa : D ∉ adrs := fun hm => h3'.1 (List.mem_append_left _ (by rw [hadr]; exact hm))
    have hDit : D ≠ a := fun e => h3'.1 (List.mem_append_right _ (by rw [e]; exact List.mem_singleton_self _))
    have haa : a ∉ adrs := fun hm => by
      have := h3'.2
      rw [List.nodup_append] at this
      exact this.2.2 a (by rw [hadr]; exact hm) a (List.mem_singleton_self _) rfl
    have hadr' : ∀ b ∈ adrs, β2 b = none := fun b hm => S2.pb b (hid_priv (by rw [List.map_cons, List.map_append, hadr]; exact List.mem_cons_of_mem _ (List.mem_append_left _ hm)))
    refine comp_turn_last rfl rfl (wpAny_mono (hit.item A _ i ds[i] β2 (fun v s1 => wpAny (model c.prog c.w) A (assign (.Name x px) env v) (fun _ s₂ =>
        wpAny (model c.prog c.w) A (tests [] env) (fun ok s₃ =>
          if ok = true then wpAny (model c.prog c.w) A (eval (.Call (.Name fn p2) [.Name it p3] [] pos2) env) (fun x' s₄ => wpAny (model c.prog c.w) A (call (.builtin "list.append") [.ref D, x']) (fun _ s₅ => codeAny (model c.prog c.w) A (.compLoop (.ListComp (.Call (.Name fn p2) [.Name it p3] [] pos2) [⟨.Name x px, iter, [], 0⟩] scope pos) 0 (.ref I) (.ref D) env) R s₅) (fun _ _ => False) s₄) (fun _ _ => False) s₃
          else codeAny (model c.prog c.w) A (.compLoop (.ListComp (.Call (.Name fn p2) [.Name it p3] [] pos2) [⟨.Name x px, iter, [], 0⟩] scope pos) 0 (.ref I) (.ref D) env) R s₃) (fun _ _ => False) s₂) (fun _ _ => False) s1) ha (hb.kp S2.nx.kp) hx2 S2.nx.sub hadr' (fun p hp => S2.hi p (List.mem_cons_of_mem _ (List.mem_append_left _ hp))) (List.getElem?_eq_getElem hlt) (fun v h3 β3 t3 hk3 hx3 hs3 hw3 hg3 r3 => ?_)) (fun r s1 q => ?_) fun _ _ q => q)
    · have S3 : StB c env β₀ h₀ ρ [] ((D, accP c β2 out0) :: (It (i + 1) ++ [(a, itAt LL (js i))])) h3 β3 [] := by
        refine StB.stepHid (hid := (D, accP c β2 out0) :: It i) (hid' := (D, accP c β2 out0) :: It (i + 1)) S2 (by simp [hadr]) (fun b o hm e => hk3 b o (fun q => hm (List.mem_cons_of_mem _ (by rw [hadr]; exact q))) e) hx3 hs3 hw3 (fun p hp => ?_)
        rcases List.mem_cons.mp hp with rfl | hp
        · obtain ⟨o, e, q⟩ := S2.hi _ List.mem_cons_self
          exact ⟨o, hk3 _ o hDa e, q⟩
        · exact hg3 p hp
      have n3 := S3.nx
      have hak := ak_name (c := c) (k := k) (env := env) (ρ := ρ) (pos := px) (d := ds[i]) hxρ hkx
      refine hak.1 A s₀ β3 h₀ _ h3 t3 β3 [] v _ ha hb S3.base r3 fun s4 S4 => ?_
      obtain ⟨h4, t4, β4, own4, rfl, S4⟩ := S4
      have : own4 = [] := List.eq_nil_of_length_eq_zero S4.ol.symm
      subst this
      refine wpAny_tests_nil ?_
      simp only [if_true]
      have S5 := S4.rebase n3
      have hlook : ((x, ds[i]) :: ρ).lookup it = some (.kref a) := hak.2 _ _ hit0
      have he : EL c k env ((x, ds[i]) :: ρ) [.Name it p3] [.kref a] := .cons (ev_name hlook hd2 hd3) rfl .nil
      refine wpAny_Call_Name_kw (g.run (hb.kp S5.nx.kp) S5.vars ?_ hd1)
      show wpAny _ _ (callWith pos2 (.ref f) [] (backTo pos2 (starEach [.Name it p3] env)) []) _ _ _
      cases g with
      | @own _ o fd _ l hfd kx =>
      refine Calls.callWith_function (o := o) (fd := fd) (evalArgs_plain ?_)
      refine he.run pos2 A _ β4 _ ha (hb.kp S5.nx.kp) S5.nx.sub S5.vars fun vs' h6 β6 t6 n6 r6 => ?_
      obtain ⟨v6, vs6, rfl, r7, r8⟩ := r6.inv_cons
      cases r8.inv_nil
      cases r7.inv_kref
      have S6 := S5.later n6
      have hmem : (a, itAt LL (js i)) ∈ (D, accP c β2 out0) :: (It (i + 1) ++ [(a, itAt LL (js i))]) := List.mem_cons_of_mem _ (List.mem_append_right _ (List.mem_singleton_self _))
      have hpa : a ∈ priv env ([] ++ ((D, accP c β2 out0) :: (It (i + 1) ++ [(a, itAt LL (js i))])).map (·.1)) := hid_priv (List.mem_map_of_mem (f := (·.1)) hmem)
      obtain ⟨oa, ea, ha2⟩ := S6.hi _ hmem
      refine ⟨⟨S6.nx.kp _ _ (hb.1 _ _ l), hfd⟩, ?_⟩
      have haβ : β6 a = none := S6.pb a hpa
      refine hf i hlt A _ β6 h₀ a LL vs n _ ha hb S6.nx.kp S6.nx.sub haβ (S6.p0 a hpa) (S6.nx.ext _ _ hL) (hr.mono S6.nx.ext) ⟨oa, ea, ha2⟩ fun t7 h7 tk7 hk7 ho7 => ?_
      have S7 : StB c env β₀ h₀ ((x, ds[i]) :: ρ) [] ((D, accP c β2 out0) :: (It (i + 1) ++ [(a, itAt LL (js (i + 1)))])) h7 β6 [] := by
        have P6 : StB c env β₀ h₀ ((x, ds[i]) :: ρ) [] ([(a, itAt LL (js i))] ++ ((D, accP c β2 out0) :: It (i + 1))) h6 β6 [] := S6.perm (by
          rw [← List.cons_append]; exact List.perm_append_comm)
        have P7 : StB c env β₀ h₀ ((x, ds[i]) :: ρ) [] ([(a, itAt LL (js (i + 1)))] ++ ((D, accP c β2 out0) :: It (i + 1))) h7 β6 [] := by
          refine StB.stepHid (hid := [(a, itAt LL (js i))]) (hid' := [(a, itAt LL (js (i + 1)))]) P6 rfl (fun b o hm e => hk7 b o (fun q => hm (by rw [q]; exact List.mem_cons_self)) e) (fun _ _ e => e) (fun b o e => hk7 b o (fun q => ?_) (S6.nx.sub b o e)) (fun b o e e0 => by rw [e0] at e; cases e) (fun p hp => ?_)
          · rw [q, haβ] at e; cases e
          · rw [List.mem_singleton.mp hp]; exact ho7
        exact P7.perm (by rw [← List.cons_append]; exact List.perm_append_comm)
      have hx7 : Ext β2 β6 := fun b o e => n6.ext _ _ (S4.nx.ext _ _ (hx3 _ _ e))
      obtain ⟨oD, eD, ws, nD, rfl, rws⟩ := S7.hi _ List.mem_cons_self
      refine wpAny_list_append_plain (items := ws.toArray) ⟨nD, eD⟩ (fun h8 hl8 hs8 => ?_) (by rw [List.size_toArray, rws.1, sizeLine_eq]; omega)
      obtain ⟨n8, e8⟩ := hl8
      have hDb : β6 D = none := S7.pb D (hid_priv List.mem_cons_self)
      have S8 : StB c env β₀ h₀ ((x, ds[i]) :: ρ) [] ((D, accP c β6 (out0 ++ [Dat.int (rs i)])) :: (It (i + 1) ++ [(a, itAt LL (js (i + 1)))])) h8 β6 [] := by
        refine StB.stepHid (hid := [(D, accP c β2 out0)]) (hid' := [(D, accP c β6 (out0 ++ [Dat.int (rs i)]))]) S7 (by simp) (fun b o hm e => (hs8.2 b fun q => hm (by rw [q]; exact List.mem_cons_self)).trans e) (fun _ _ e => e) (fun b o e => (hs8.2 b fun q => ?_).trans (S7.nx.sub b o e)) (fun b o e e0 => by rw [e0] at e; cases e) (fun p hp => ?_)
        · rw [q, hDb] at e; cases e
        · rw [List.mem_singleton.mp hp]; exact ⟨_, e8, ws ++ [.int (rs i) t7], n8, by simp, (rws.mono hx7).snoc (.int _ _)⟩
      refine ih (i + 1) (by omega) (out0 ++ [Dat.int (rs i)]) h8 _ β6 R (fun b o e => hx7 _ _ (hx2 _ _ e)) (S8.forget hak.2) (by rw [List.length_append, List.length_singleton]; omega) fun h' t' β' hx' S' => hR h' t' β' (fun b o e => hx' _ _ (hx7 _ _ e)) ?_
      have e9 : out0 ++ (List.range (m + 1)).map (fun q => Dat.int (rs (i + q))) = out0 ++ [Dat.int (rs i)] ++ (List.range m).map fun q => Dat.int (rs (i + 1 + q)) := by
        rw [List.range_succ_eq_map, List.map_cons, List.map_map, List.append_assoc, Nat.add_zero]
        congr 2
        apply List.map_congr_left
        intro q _
        show Dat.int (rs (i + (q + 1))) = _
        rw [show i + (q + 1) = i + 1 + q by omega]
      rw [e9]; exact S'
    · obtain ⟨v, rfl, q⟩ := q; exact q
end
end Mine

open PySem PySem.W PySem.W.X PyProof.Rows PySem.Calls PySem.Spec
set_option Elab.async false
namespace Mine
set_option maxRecDepth 100000
set_option maxHeartbeats 1000000
set_option linter.unusedVariables false
section
variable {c : Cx} {k : Nat} {env : Env} {ρ : DEnv} {A : Around} {β₀ : View} {h₀ : Heap} {s₀ : Shared} {σ : DEnv} {η : Hid} {K : Flow → Shared → Prop} {rest : List Stmt}
theorem StB.hideNow {h : Heap} {β : View} {own : List Addr} {hid : Hid} (S : StB c env β₀ h₀ ρ σ η h β own) (hf : ∀ a ∈ hid.map (·.1), a ∉ priv env (own ++ η.map (·.1)) ∧ β a = none ∧ h₀.get? a = none) (hn : (hid.map (·.1)).Nodup) (hg : HidAt h hid) : StB c env β₀ h₀ ρ σ (hid ++ η) h β own := by
  refine ⟨S.nx, S.vars, hid_nodup S.pd hn (fun a ha => (hf a ha).1), fun a ha => ?_, fun a ha => ?_, S.fr, S.cl, S.ol, S.ow, fun p hp => ?_, S.fc⟩
  · rcases hid_mem ha with q | q
    · exact (hf a q).2.1
    · exact S.pb a q
  · rcases hid_mem ha with q | q
    · exact (hf a q).2.2
    · exact S.p0 a q
  · rcases List.mem_append.mp hp with q | q
    · exact hg p q
    · exact S.hi p q

/-- y = [f(it) for x in ..], f drawing from it -/
theorem x_draw_comp {z fn it x : Str} {pz spos p2 p3 pos2 px : Pos} {iter : Expr} {scope : Scope} {pos : Pos} {cl : List (Str × Addr)} {f a LL : Addr} {vs : List Value} {n : Nat} {ds0 ds : List Dat} {js : Nat → Nat} {rs : Nat → Int} (ρc : DEnv)
    (hi : EI c k env ρ (.Name x px) iter ds) (hok : CompOk env scope cl ρ ρc) (hx : scope.names.lookup x = some .local) (hρx : ρc.lookup x = none) (hit : ρc.lookup it = some (.kref a))
    (g : ∀ C, GN c (compEnvC scope cl C env) fn (.ref f)) (hL : β₀ LL = some (lstO vs n)) (hr : Rds c β₀ vs ds0) (hf : ∀ i, i < ds.length → FV c k (.ref f) ds0 (js i) (js (i + 1)) (rs i)) (hlen : ds.length ≤ 10000)
    (hσ : σ.lookup z = none) (hz : KindOk env z) (hsw : swapsWith (.ListComp (.Call (.Name fn p2) [.Name it p3] [] pos2) [⟨.Name x px, iter, [], 0⟩] scope pos) (some (.Name z pz)) spos.line env = pure true) (hfold : ∀ env' x, foldedSetIterable iter env' x = pure x)
    (h : SX c k A env β₀ h₀ s₀ ((z, .lst ((List.range ds.length).map fun q => Dat.int (rs q))) :: ρ) σ ((a, itAt LL (js ds.length)) :: η) rest K)
    (hd1 : (fn == ("__debug__" : Str)) = false := by decide) (hd2 : (it == ("__debug__" : Str)) = false := by decide) (hd3 : (it == ("__classdict__" : Str)) = false := by decide) :
    SX c k A env β₀ h₀ s₀ ρ σ ((a, itAt LL (js 0)) :: η) (.Assign [.Name z pz] (.ListComp (.Call (.Name fn p2) [.Name it p3] [] pos2) [⟨.Name x px, iter, [], 0⟩] scope pos) spos :: rest) K := by
  rintro ha hb _ ⟨h', t, β, own, rfl, S⟩
  refine wpAny_execs_cons ?_
  rw [exec_Assign_Name_used _ _ _ _ hsw]
  refine wpAny_bind (wpAny_standAt (wpAny_bind ?_))
  show wpAny _ A (do let _ ← comprehension (.ListComp (.Call (.Name fn p2) [.Name it p3] [] pos2) [⟨.Name x px, iter, [], 0⟩] scope pos) scope env _ (newList []) false (eval iter env) (some (assign (.Name z pz) env))) _ _ _
  refine wpAny_bind (wpAny_mono (Q := fun _ s' => Kseq c A env rest K .next s') ?_ (fun _ s' hq => wpAny_pure (wpAny_pure hq)) fun _ _ e => e)
  have hpa : a ∈ priv env (own ++ ((a, itAt LL (js 0)) :: η).map (·.1)) := hid_priv List.mem_cons_self
  have hβa : β a = none := S.pb a hpa
  have h0a : h₀.get? a = none := S.p0 a hpa
  obtain ⟨oa, ea, hoa⟩ := S.hi _ List.mem_cons_self
  have ek : Kp (erase h' a) h' := erase_kp
  have kpE : Kp h₀ (erase h' a) := fun b o e => by
    have hne : b ≠ a := fun q => by rw [q, h0a] at e; cases e
    rw [erase_other hne]; exact S.nx.kp _ _ e
  have eN : ∀ b, h'.get? b = none → (erase h' a).get? b = none := fun b e => by
    cases q : (erase h' a).get? b with
    | none => rfl
    | some o => rw [ek _ _ q] at e; cases e
  refine wpAny_comprehension_free rfl (fun x => hfold env x) hok.clos hok.kind hok.names ?_
  refine hi A _ β _ ha (hb.kp S.nx.kp) S.nx.sub S.vars fun I It adrs h1 β1 t1 n1 hfr hn hadr hg hit1 => ?_
  refine wpAny_newObj_type (wpAny_newFunctionEnv hok.cell (by intro y hy; simp at hy) (fun h₂ hns₂ hsb₂ => ?_) hok.kind)
  dsimp only at hns₂ hsb₂ ⊢
  generalize hH2 : h1.push { cls := .type "list", dict := none, data := .seq ([] : List Value).toArray } = H2 at hns₂ hsb₂ ⊢
  have hC : H2.objs.size = h1.objs.size + 1 := by rw [← hH2, Heap.size_push]
  have hDC0 : h1.objs.size ≠ H2.objs.size := by rw [hC]; exact Nat.ne_of_lt (Nat.lt_succ_self _)
  have hCle : h1.objs.size ≤ H2.objs.size := by rw [hC]; exact Nat.le_succ _
  have below : ∀ b o, h1.get? b = some o → b ≠ H2.objs.size ∧ b ≠ h1.objs.size := fun b o e => by
    have := Heap.lt_size e
    exact ⟨by rw [hC]; exact Nat.ne_of_lt (Nat.lt_succ_of_lt this), Nat.ne_of_lt this⟩
  have old : ∀ b o, h1.get? b = some o → h₂.get? b = some o := fun b o e => hsb₂.extBut b o (below b o e).1 (Heap.get?_push_of_some _ (hH2 ▸ Heap.get?_push_of_some _ e))
  have hD : h₂.get? h1.objs.size = some (lstO [] 0) := hsb₂.extBut _ _ hDC0 (Heap.get?_push_of_some _ (hH2 ▸ Heap.get?_push_size _ rfl))
  have freshS : ∀ b, h1.objs.size ≤ b → h'.get? b = none := fun b hle => by
    cases q : h'.get? b with
    | none => rfl
    | some o => exact absurd (Heap.lt_size (n1.kp _ _ q)) (Nat.not_lt.mpr hle)
  have freshB : ∀ b, h1.objs.size ≤ b → β1 b = none := fun b hle => by
    cases q : β1 b with
    | none => rfl
    | some o => exact absurd (Heap.lt_size (n1.sub _ _ q)) (Nat.not_lt.mpr hle)
  have S1 := S.later n1
  have hβ1a : β1 a = none := S1.pb a hpa
  have halt : a < h1.objs.size := Heap.lt_size (n1.kp _ _ ea)
  have haadr : a ∉ adrs := fun hm => by have := (hfr a hm).1; rw [ea] at this; cases this
  have n2 : Nx β (erase h' a) β1 h₂ := ⟨fun b o e => old _ _ (n1.kp _ _ (ek _ _ e)), n1.ext, fun b o e => old _ _ (n1.sub _ _ e), fun b o e e0 => eN b (n1.new b o e e0)⟩
  have adlt : ∀ b ∈ adrs, b < h1.objs.size := fun b hm => by
    rw [← hadr 0] at hm
    obtain ⟨p, hp, rfl⟩ := List.mem_map.mp hm
    obtain ⟨o, e, _⟩ := hg p hp
    exact Heap.lt_size e
  have S' : StB c (compEnvC scope cl H2.objs.size env) β (erase h' a) ρc [] ((h1.objs.size, accP c β1 []) :: (It 0 ++ [(a, itAt LL (js 0))])) h₂ β1 [] := by
    have mm : ((h1.objs.size, accP c β1 []) :: (It 0 ++ [(a, itAt LL (js 0))])).map (·.1) = h1.objs.size :: (adrs ++ [a]) := by rw [List.map_cons, List.map_append, hadr]; rfl
    refine ⟨n2, ⟨hok.kind, S.vars.gl, S.vars.bl, fun x d e => ?_⟩, ?_, fun b hm => ?_, fun b hm => ?_, ⟨_, hns₂⟩, fun b hm => (List.not_mem_nil hm).elim, rfl, fun i x d b h1 => (by simp at h1), fun p hp => ?_, fun x b l => ?_⟩
    · obtain ⟨q1, q2, q3, q4⟩ := hok.cap.at e
      obtain ⟨v, r, l⟩ := S.vars.at' x d q1
      refine ⟨v, r.mono n1.ext, ?_⟩
      rcases l with ⟨e1, _⟩ | ⟨e1, b, l, q⟩
      · exact (q2 e1).elim
      · exact .inr ⟨q3, b, q4.trans l, (q.keeps n1.kp).keeps old⟩
    · show (H2.objs.size :: ([] ++ ([] ++ ((h1.objs.size, accP c β1 []) :: (It 0 ++ [(a, itAt LL (js 0))])).map (·.1)))).Nodup
      rw [List.nil_append, List.nil_append, mm]
      simp only [List.nodup_cons, List.mem_cons, not_or, List.mem_append, List.mem_singleton, List.nodup_append]
      refine ⟨⟨fun e => hDC0 e.symm, fun hm => ?_, fun e => ?_, by simp⟩, ⟨fun hm => ?_, fun e => ?_, by simp⟩, hn, by simp, fun u hu v hv e => ?_⟩
      · exact absurd (adlt _ hm) (Nat.not_lt.mpr hCle)
      · rw [← e] at halt; exact absurd halt (Nat.not_lt.mpr hCle)
      · exact absurd (adlt _ hm) (Nat.lt_irrefl _)
      · rw [← e] at halt; exact absurd halt (Nat.lt_irrefl _)
      · exact haadr (by rw [← (show v = a by simpa using hv), ← e]; exact hu)
    · rcases List.mem_cons.mp hm with rfl | hm
      · exact freshB _ hCle
      · have hm : b ∈ [] ++ ([] ++ ((h1.objs.size, accP c β1 []) :: (It 0 ++ [(a, itAt LL (js 0))])).map (·.1)) := hm
        rw [List.nil_append, List.nil_append, mm] at hm
        rcases List.mem_cons.mp hm with rfl | hm
        · exact freshB _ (Nat.le_refl _)
        · rcases List.mem_append.mp hm with hm | hm
          · exact (hfr b hm).2
          · rw [List.mem_singleton.mp hm]; exact hβ1a
    · rcases List.mem_cons.mp hm with rfl | hm
      · exact eN _ (freshS _ hCle)
      · have hm : b ∈ [] ++ ([] ++ ((h1.objs.size, accP c β1 []) :: (It 0 ++ [(a, itAt LL (js 0))])).map (·.1)) := hm
        rw [List.nil_append, List.nil_append, mm] at hm
        rcases List.mem_cons.mp hm with rfl | hm
        · exact eN _ (freshS _ (Nat.le_refl _))
        · rcases List.mem_append.mp hm with hm | hm
          · exact eN _ (hfr b hm).1
          · rw [List.mem_singleton.mp hm]; exact erase_self
    · rcases List.mem_cons.mp hp with rfl | hp
      · exact ⟨_, hD, [], 0, rfl, Rds.nil⟩
      · rcases List.mem_append.mp hp with hp | hp
        · obtain ⟨o, e, q⟩ := hg p hp
          exact ⟨o, old _ _ e, q⟩
        · rw [List.mem_singleton.mp hp]
          exact ⟨oa, old _ _ (n1.kp _ _ ea), hoa⟩
    · right
      have l : cl.lookup x = some b := l
      obtain ⟨d, hd⟩ := Option.isSome_iff_exists.mp (hok.cov x b l)
      obtain ⟨q1, q2, q3, q4⟩ := hok.cap.at hd
      obtain ⟨v, r, lk⟩ := S.vars.at' x d q1
      rcases lk with ⟨e1, _⟩ | ⟨e1, a', l', o, q, _⟩
      · exact (q2 e1).elim
      · rw [q4, l'] at l; cases l
        refine ⟨o, ?_⟩
        rw [erase_other (S.cellOwn l' (List.mem_append_right _ List.mem_cons_self))]; exact q
  have loop : codeAny (model c.prog c.w) A (.compLoop (.ListComp (.Call (.Name fn p2) [.Name it p3] [] pos2) [⟨.Name x px, iter, [], 0⟩] scope pos) 0 (.ref I) (.ref h1.objs.size) (compEnvC scope cl H2.objs.size env))
      (compPost (model c.prog c.w) A (fun _ _ => False) (some (assign (.Name z pz) env)) (fun _ s' => Kseq c A env rest K .next s') (.ref h1.objs.size) H2.objs.size) { s₀ with heap := h₂, toks := t1 + ([] : List (Str × Value)).length } := by
    refine draw_loop (β₀ := β) (h₀ := erase h' a) (s₀ := s₀) ha (hb.kp kpE) (g _) (S.nx.ext _ _ hL) (hr.mono S.nx.ext) hit hρx (.inl (lookup_relabel_local hx)) hf hd1 hd2 hd3 β1 I It adrs hit1 hadr ds.length 0 (by omega) [] h₂ _ β1 _ (fun _ _ e => e) S' (by simpa using hlen) fun h3 t3 β3 hx3 S3 => ?_
    rw [List.nil_append] at S3
    simp only [Nat.zero_add] at S3
    obtain ⟨oD, eD, ws, nD, rfl, rws⟩ := S3.hi _ List.mem_cons_self
    obtain ⟨m, hm⟩ := S3.fr
    show wpAny _ A (assign (.Name z pz) env (.ref h1.objs.size)) _ _ _
    have hDβ : β3 h1.objs.size = none := S3.pb _ (hid_priv List.mem_cons_self)
    have hCβ : β3 H2.objs.size = none := S3.pb _ List.mem_cons_self
    have haβ3 : β3 a = none := S3.pb a (hid_priv (List.mem_cons_of_mem _ List.mem_cons_self))
    have kp3 : ∀ b o, b ≠ a → h'.get? b = some o → h3.get? b = some o := fun b o hne e => S3.nx.kp _ _ (by rw [erase_other hne]; exact e)
    have S4 : StB c env β₀ h₀ ρ σ ((a, itAt LL (js ds.length)) :: η) h3 (fun b => if b = h1.objs.size then some (lstO ws nD) else β3 b) own := by
      refine StB.stepHid (hid := [(a, itAt LL (js 0))]) (hid' := [(a, itAt LL (js ds.length))]) S rfl (fun b o hm e => kp3 b o (fun q => hm (by rw [q]; exact List.mem_cons_self)) e) (fun b o e => ?_) (fun b o e => ?_) (fun b o e e0 => ?_) (fun p hp => ?_)
      · by_cases q : b = h1.objs.size
        · subst q; have := S.nx.sub _ _ e; rw [freshS _ (Nat.le_refl _)] at this; cases this
        · show (if b = h1.objs.size then some (lstO ws nD) else β3 b) = _; rw [if_neg q]; exact S3.nx.ext _ _ e
      · by_cases q : b = h1.objs.size
        · rw [if_pos q] at e; cases e; subst q; exact eD
        · rw [if_neg q] at e; exact S3.nx.sub _ _ e
      · by_cases q : b = h1.objs.size
        · rw [q]; exact freshS _ (Nat.le_refl _)
        · rw [if_neg q] at e
          have := S3.nx.new b o e e0
          by_cases qa : b = a
          · subst qa; rw [haβ3] at e; cases e
          · rw [erase_other qa] at this; exact this
      · rw [List.mem_singleton.mp hp]; exact S3.hi _ (List.mem_cons_of_mem _ List.mem_cons_self)
    have r4 : Rd c (fun b => if b = h1.objs.size then some (lstO ws nD) else β3 b) (.ref h1.objs.size) (.lst ((List.range ds.length).map fun q => Dat.int (rs q))) := .lst (by rw [if_pos rfl]) rws.1 fun i v d g1 g2 => (rws.2 i v d g1 g2).mono fun b o e => by
      by_cases q : b = h1.objs.size
      · subst q; rw [hDβ] at e; cases e
      · show (if b = h1.objs.size then some (lstO ws nD) else β3 b) = _; rw [if_neg q]; exact e
    have S5 := S4.hideNow (hid := [(H2.objs.size, NsP)]) (fun b hm => by
      rw [List.mem_singleton.mp hm]
      refine ⟨fun hp => ?_, ?_, ?_⟩
      · obtain ⟨o, e⟩ := S.mem_get hp
        rw [freshS _ hCle] at e; cases e
      · show (if H2.objs.size = h1.objs.size then some (lstO ws nD) else β3 H2.objs.size) = none
        rw [if_neg (Ne.symm hDC0)]; exact hCβ
      · cases q : h₀.get? H2.objs.size with
        | none => rfl
        | some o => have := S.nx.kp _ _ q; rw [freshS _ hCle] at this; cases this) (by simp) (fun p hp => by rw [List.mem_singleton.mp hp]; exact NsP.of hm)
    refine wpAny_assign_Name (store (s := { s₀ with heap := h3, toks := t3 }) S5 r4 hσ hz fun h6 t6 S6 => ?_)
    obtain ⟨o, e, q⟩ := S6.hi (H2.objs.size, NsP) List.mem_cons_self
    obtain ⟨m2, hm2⟩ := q.ns e
    exact ⟨m2, hm2, fun h7 hs7 => h ha hb _ ⟨h7, t6, _, own, rfl, S6.dropHid fun b o hm e => (hs7.2 b fun q => hm (by rw [q]; exact List.mem_cons_self)).trans e⟩⟩
  exact comp_start rfl loop (hit1.self A _ 0 _ _ (fun p hp => let ⟨o, e, q⟩ := hg p hp; ⟨o, old _ _ e, q⟩) loop)

/-- a, b = e, []: the list is the frame's own -/
theorem x_unpack_own {x y : Str} {px py : Pos} {ts : List Expr} {n m : Nat} {tpos vpos lpos pos : Pos} {e : Expr} {d : Dat} (he : EV c k env ρ e d) (hst : starEach [e, .List [] lpos] env = (false, eval e env) :: starEach [.List [] lpos] env) (hxk : KindOk env x) (hyk : KindOk env y) (hxσ : σ.lookup x = none) (hyρ : ρ.lookup y = none) (hyσ : σ.lookup y = none) (hxy : x ≠ y)
    (h : SX c k A env β₀ h₀ s₀ ((x, d) :: ρ) ((y, .lst []) :: σ) η rest K)
    (hs : swapsWithSole [.Tuple ts n tpos] (.Tuple [e, .List [] lpos] m vpos) pos.line env = pure false) (hw : swappedStores [.Tuple ts n tpos] (.Tuple [e, .List [] lpos] m vpos) env = pure (some [x, y])) :
    SX c k A env β₀ h₀ s₀ ρ σ η (.Assign [.Tuple ts n tpos] (.Tuple [e, .List [] lpos] m vpos) pos :: rest) K := by
  rintro ha hb _ ⟨h', t, β, own, rfl, S⟩
  refine wpAny_execs_cons (Assign_Tuple_swapped (names := [x, y]) ?_ hs hw)
  refine wpAny_Tuple_spliced ?_
  refine spliced_more (he A _ β _ ha (hb.kp S.nx.kp) S.nx.sub S.vars fun v h1 β1 t1 n1 r1 => ?_) hst
  have S1 := S.later n1
  refine spliced_more ?_ rfl
  refine wpAny_List_spliced ((EL.nil : EL c k env ρ [] []).run lpos A _ β1 _ ha (hb.kp S1.nx.kp) S1.nx.sub S1.vars fun zs h2 β2 t2 n2 r2 => ⟨?_, ?_⟩)
  · rw [r2.1, sizeLine_eq]; simp
  cases r2.inv_nil
  have S2 := S1.later n2
  refine spliced_none ⟨by rw [sizeLine_eq]; simp, ?_⟩
  have eD : (h2.push (lstO [] 0)).get? h2.objs.size = some (lstO [] 0) := Heap.get?_push_size _ rfl
  have eT : ((h2.push (lstO [] 0)).push { cls := .type "tuple", data := .seq [v, .ref h2.objs.size].toArray }).get? (h2.push (lstO [] 0)).objs.size = some (tupO [v, .ref h2.objs.size] 0) := Heap.get?_push_size _ rfl
  refine wpAny_unpackItems_tuple (items := [v, Value.ref h2.objs.size].toArray) ha.hh ⟨_, eT, rfl, 0, rfl⟩ fun h3 hx3 => ?_
  have kp : Kp h2 h3 := fun b o e => hx3 b o (Nat.ne_of_lt (Heap.lt_size (Heap.get?_push_of_some _ (Heap.get?_push_of_some _ e)))) (Heap.get?_push_of_some _ (Heap.get?_push_of_some _ e))
  have eD3 : h3.get? h2.objs.size = some (lstO [] 0) := hx3 _ _ (Nat.ne_of_lt (Heap.lt_size (Heap.get?_push_of_some _ eD))) (Heap.get?_push_of_some _ eD)
  have hDn : h2.get? h2.objs.size = none := Heap.get?_none_of_le (Nat.le_refl _)
  show wpAny _ A (assignInOrder [bindName env y, bindName env x] [.ref h2.objs.size, v]) _ _ _
  refine wpAny_bind (wpAny_holding (wpAny_bindName (own_new (d := .lst []) S2 kp hDn ⟨[], 0, eD3, Rds.nil⟩ hyρ hyσ hyk fun h4 t4 S4 => ?_)))
  have hxs : (((y, Dat.lst []) :: σ) : DEnv).lookup x = none := by
    rw [List.lookup_cons]
    have : (x == y) = false := by simpa using hxy
    rw [this]; exact hxσ
  refine wpAny_bind (wpAny_holding (wpAny_bindName (store (s := { s₀ with heap := h4, toks := t4 }) S4 (r1.mono n2.ext) hxs hxk fun h5 t5 S5 => ?_)))
  exact wpAny_pure (h ha hb _ ⟨h5, t5, _, _, rfl, S5⟩)
end
end Mine

open PySem PySem.W PySem.W.X PyProof.Rows PySem.Calls PySem.Spec
set_option Elab.async false
namespace Mine
set_option maxRecDepth 100000
set_option maxHeartbeats 1000000
set_option linter.unusedVariables false
theorem well_ints {c : Cx} {β : View} {P : Params} {h : Heap} : ∀ {ns : List Int} {vs : List Value}, WellAll P h vs (ns.map WData.int) → Rds c β vs (ns.map Dat.int)
  | [], vs, r => by cases r; exact Rds.nil
  | n :: ns, vs, r => by
    cases r with
    | cons a b =>
      cases a with
      | int i t => exact Rds.cons (.int _ _) (well_ints b)
theorem well_list {P : Params} {h : Heap} {v : Value} {xs : List WData} (w : Well P h v (.list xs)) : ∃ a vs, v = .ref a ∧ h.get? a = some (lstO vs 0) ∧ WellAll P h vs xs := by
  cases w with
  | list e w => exact ⟨_, _, rfl, e, w⟩
theorem ofPy_ints (ns : List Int) : ofPy (PyData.list (ns.map PyData.int)) = WData.list (ns.map WData.int) := by
  show WData.list _ = _
  congr 1
  induction ns with
  | nil => rfl
  | cons a ns ih => rw [List.map_cons, List.map_cons, ← ih]; rfl
theorem caller_ok : AOk 20 callerA := ⟨rfl, by decide, by decide⟩
/-- the law's call, from its contract -/
theorem law_call {c : Cx} {s : Shared} {f : Addr} {l : Addr} {vs : List Value} {ns : List Int} {Q E : Value → Shared → Prop} (hb : Base c s.heap) (hf : FS c 20 (.ref f) [.lst (ns.map Dat.int)] (.bool true)) (hl : s.heap.get? l = some (lstO vs 0)) (hr : ∀ β, Rds c β vs (ns.map Dat.int))
    (hQ : ∀ h' t, Kp s.heap h' → Q (.bool true) { s with heap := h', toks := t }) : wpAny (model c.prog c.w) callerA (call (.ref f) [.ref l]) Q E s := by
  refine wpAny_mono (hf callerA s (fun x => if x = l then s.heap.get? l else none) [.ref l] Q caller_ok hb (fun a o e => ?_) ⟨rfl, fun i v d h1 h2 => ?_⟩ fun v h' β' t n r => ?_) (fun _ _ q => q) fun _ _ q => q.elim
  · dsimp only at e
    by_cases q : a = l
    · subst q; rw [if_pos rfl] at e; exact e
    · rw [if_neg q] at e; cases e
  · match i, h1, h2 with
    | 0, h1, h2 =>
      cases h1; cases h2
      refine .lst (vs := vs) (n := 0) (by rw [if_pos rfl]; exact hl) (hr (fun _ => none)).1 (hr _).2
  · cases r.inv_bool; exact hQ h' t n.kp
end Mine

open PySem PySem.W PySem.W.X PyProof.Rows PySem.Calls PySem.Spec
set_option Elab.async false
namespace Mine
set_option maxRecDepth 100000
set_option maxHeartbeats 1000000
set_option linter.unusedVariables false
/-- law 2: what is built -/
def nums (ns : List Int) : List Int := ((if ns = [] then [33261, 294, 15, 72, 10241] else ns).take 7)
def modeOf (ns : List Int) : Nat := (((nums ns).getD 0 0).fmod 65536).toNat
def dueOf (ns : List Int) : List Nat := ((nums ns).drop 1).map fun n => (n.fmod 16384).toNat
def ocOf (ns : List Int) : List Nat := (dueOf ns).flatMap digs
theorem nums_pos (ns : List Int) : 0 < (nums ns).length := by
  unfold nums
  split
  · decide
  · rename_i h
    rw [List.length_take]
    have := List.length_pos_iff.mpr h; omega
theorem nums_len (ns : List Int) : (nums ns).length ≤ 7 := by unfold nums; rw [List.length_take]; omega
theorem mode_lt (ns : List Int) : modeOf ns < 65536 := by
  unfold modeOf
  have h1 := Int.fmod_lt_of_pos ((nums ns).getD 0 0) (show (0 : Int) < 65536 by omega)
  have h2 := Int.fmod_nonneg_of_pos ((nums ns).getD 0 0) (show (0 : Int) < 65536 by omega)
  omega
theorem due_lt (ns : List Int) : ∀ d ∈ dueOf ns, d < 16384 := fun d hd => by
  unfold dueOf at hd
  obtain ⟨n, _, rfl⟩ := List.mem_map.mp hd
  have h1 := Int.fmod_lt_of_pos n (show (0 : Int) < 16384 by omega)
  have h2 := Int.fmod_nonneg_of_pos n (show (0 : Int) < 16384 by omega)
  omega
theorem due_len (ns : List Int) : (dueOf ns).length ≤ 6 := by
  unfold dueOf
  rw [List.length_map, List.length_drop]
  have := nums_len ns; omega
theorem flat_len (l : List Nat) : (l.flatMap digs).length ≤ 3 * l.length := by
  induction l with
  | nil => simp
  | cons a l ih => rw [List.flatMap_cons, List.length_append, List.length_cons]; have := digs_len a; omega
theorem oc_len (ns : List Int) : (ocOf ns).length ≤ 18 := by
  unfold ocOf
  have h1 := flat_len (dueOf ns)
  have h2 := due_len ns; omega
theorem figF_lt (d : Nat) : ∀ i, ∀ x ∈ figF d i, x < 128
  | 0 => fun x hx => by unfold figF at hx; rw [List.mem_singleton.mp hx]; omega
  | i + 1 => fun x hx => by
    unfold figF at hx
    rcases List.mem_cons.mp hx with rfl | q
    · omega
    · exact figF_lt d i x q
theorem digs_lt (d : Nat) : ∀ x ∈ digs d, x < 256 := fun x hx => by
  unfold digs at hx
  rcases List.mem_cons.mp hx with rfl | q
  · have : (figF d (figN d)).getD 0 0 < 128 := by
      have h : 0 < (figF d (figN d)).length := by rw [figF_len]; omega
      rw [List.getD_eq_getElem?_getD, List.getElem?_eq_getElem h]
      exact figF_lt d _ _ (List.getElem_mem h)
    omega
  · have := figF_lt d _ x (List.mem_of_mem_drop q); omega
theorem oc_lt (ns : List Int) : ∀ x ∈ ocOf ns, x < 256 := fun x hx => by
  unfold ocOf at hx
  obtain ⟨d, _, hd⟩ := List.mem_flatMap.mp hx
  exact digs_lt d x hd
theorem octs_bytes (l : List Nat) (h : ∀ x ∈ l, x < 256) : octs (bytesOf l) = l := by
  rw [bytesOf_eq]
  unfold octs bts
  rw [List.map_map]
  conv => rhs; rw [← List.map_id l]
  apply List.map_congr_left
  intro n hn
  show n.toUInt8.toNat = n
  rw [show n.toUInt8.toNat = n % 256 from UInt8.toNat_ofNat', Nat.mod_eq_of_lt (h n hn)]
theorem size_bytes (l : List Nat) : (bytesOf l).size = l.length := by rw [bytesOf_eq]; simp [bts]
/-- where the deeds begin -/
def posAt (due : List Nat) (i : Nat) : Nat := ((due.take i).flatMap digs).length
theorem posAt_succ (due : List Nat) (i : Nat) (h : i < due.length) : posAt due (i + 1) = posAt due i + figN (due.getD i 0) + 1 := by
  unfold posAt
  rw [List.take_add_one, List.getElem?_eq_getElem h, List.flatMap_append, List.length_append, List.getD_eq_getElem?_getD, List.getElem?_eq_getElem h]
  show _ + ([due[i]].flatMap digs).length = _
  rw [List.flatMap_singleton]
  unfold digs
  rw [List.length_cons, List.length_drop, figF_len]
  show _ + (figN due[i] + 1 - 1 + 1) = _ + figN due[i] + 1
  omega
theorem posAt_end (due : List Nat) : posAt due due.length = (due.flatMap digs).length := by unfold posAt; rw [List.take_length]
theorem flat_at (due : List Nat) (i j : Nat) (h : i < due.length) (hj : j < (digs (due.getD i 0)).length) : (due.flatMap digs).getD (posAt due i + j) 0 = (digs (due.getD i 0)).getD j 0 := by
  have e1 : due = due.take i ++ (due.getD i 0 :: due.drop (i + 1)) := by
    rw [List.getD_eq_getElem?_getD, List.getElem?_eq_getElem h]
    show due = due.take i ++ (due[i] :: due.drop (i + 1))
    rw [← List.drop_eq_getElem_cons h, List.take_append_drop]
  conv => lhs; rw [e1]
  rw [List.flatMap_append, List.flatMap_cons, List.getD_eq_getElem?_getD]
  unfold posAt
  have e2 : (List.take i due) = (List.take i (List.take i due ++ due.getD i 0 :: List.drop (i + 1) due)) := by rw [← e1]
  rw [← e1, List.getElem?_append_right (by omega), Nat.add_sub_cancel_left, List.getElem?_append_left hj, ← List.getD_eq_getElem?_getD]
/-- the deeds are read back -/
theorem fig_digit (d : Nat) : ∀ i j, j ≤ i → (figF d i).getD j 0 = d / 64 ^ (i - j) % 64 + (if j < i then 64 else 0)
  | 0, j, h => by
    have : j = 0 := by omega
    subst this; simp [figF]
  | i + 1, 0, h => by unfold figF; simp
  | i + 1, j + 1, h => by
    unfold figF
    rw [List.getD_cons_succ, fig_digit d i j (by omega), show i + 1 - (j + 1) = i - j by omega]
    congr 1
    by_cases q : j < i
    · rw [if_pos q, if_pos (by omega)]
    · rw [if_neg q, if_neg (by omega)]
theorem dig_at (d j : Nat) (h : j ≤ figN d) : (digs d).getD j 0 % 64 = d / 64 ^ (figN d - j) % 64 ∧ ((digs d).getD j 0).testBit 6 = decide (j < figN d) := by
  have key : ∀ a b : Nat, a < 64 → (b = 0 ∨ b = 1) → ∀ cc, (cc = 0 ∨ cc = 128) → (a + (if b = 1 then 64 else 0) + cc) % 64 = a ∧ (a + (if b = 1 then 64 else 0) + cc).testBit 6 = decide (b = 1) := by
    intro a b ha hb cc hc
    rcases hb with rfl | rfl <;> rcases hc with rfl | rfl <;> (refine ⟨by simp; omega, ?_⟩; rw [Nat.testBit_eq_decide_div_mod_eq]; simp; omega)
  cases j with
  | zero =>
    unfold digs
    rw [List.getD_cons_zero, fig_digit d (figN d) 0 (by omega)]
    have := key (d / 64 ^ (figN d - 0) % 64) (if 0 < figN d then 1 else 0) (Nat.mod_lt _ (by omega)) (by split <;> simp) 128 (.inr rfl)
    by_cases q : 0 < figN d
    · rw [if_pos q] at this ⊢; simpa [q] using this
    · rw [if_neg q] at this ⊢; simpa [q] using this
  | succ j =>
    unfold digs
    rw [List.getD_cons_succ]
    have e : ((figF d (figN d)).drop 1).getD j 0 = (figF d (figN d)).getD (j + 1) 0 := by
      rw [List.getD_eq_getElem?_getD, List.getElem?_drop, List.getD_eq_getElem?_getD, Nat.add_comm 1 j]
    rw [e, fig_digit d (figN d) (j + 1) h]
    have := key (d / 64 ^ (figN d - (j + 1)) % 64) (if j + 1 < figN d then 1 else 0) (Nat.mod_lt _ (by omega)) (by split <;> simp) 0 (.inl rfl)
    by_cases q : j + 1 < figN d
    · rw [if_pos q] at this ⊢; simpa [q] using this
    · rw [if_neg q] at this ⊢; simpa [q] using this
theorem vval_dig (ns : List Nat) (j d : Nat) (hd : d / 64 ^ figN d ≤ 63) (h : ∀ i, i ≤ figN d → ns.getD (j + i) 0 % 64 = d / 64 ^ (figN d - i) % 64) : ∀ i, i ≤ figN d → vval ns j i = d / 64 ^ (figN d - i) := by
  intro i
  induction i with
  | zero => intro _; unfold vval; have := h 0 (by omega); rw [Nat.add_zero, Nat.sub_zero] at this; rw [this, Nat.sub_zero]; exact Nat.mod_eq_of_lt (by omega)
  | succ i ih =>
    intro hi
    unfold vval
    rw [ih (by omega), h (i + 1) hi]
    have e : d / 64 ^ (figN d - i) = d / 64 ^ (figN d - (i + 1)) / 64 := by
      rw [Nat.div_div_eq_div_mul, ← Nat.pow_succ, show (figN d - (i + 1)).succ = figN d - i by omega]
    rw [e]; omega
end Mine

open PySem PySem.W PySem.W.X PyProof.Rows PySem.Calls PySem.Spec
set_option Elab.async false
namespace Mine
set_option maxRecDepth 100000
set_option maxHeartbeats 1000000
set_option linter.unusedVariables false
def signC (n : Nat) : Nat := (Str.ofString "?pc?d?b?-?l?s???").cps.getD n 0
theorem signC_at : ∀ n, n < 16 → (Str.ofString "?pc?d?b?-?l?s???").cps[((n : Nat) : Int).toNat]? = some (signC n) := by decide +kernel
def probes : List Nat := [0, 4095, 2730, 3276, 240, 3840]
def kindOf2 (m : Nat) : Nat := m / 4096 * 4096
def answ (m : Nat) (due : List Nat) : List Nat := probes.map fun p => runF (kindOf2 m + p) due % 4096
/-- what the plain law says -/
structure Plain2 (ns : List Int) : Prop where
  line : ∃ figs pad, b64 (ocOf ns) = lineOf figs pad ∧ figs.length = (4 * (ocOf ns).length + 2) / 3 ∧ pad = (4 - figs.length % 4) % 4 ∧ (∀ x ∈ figs, x < 64) ∧
    (octTo (figs ++ List.replicate pad 0) ((figs.length + pad) / 4)).drop (ocOf ns).length = List.replicate ((octTo (figs ++ List.replicate pad 0) ((figs.length + pad) / 4)).length - (ocOf ns).length) 0 ∧
    (octTo (figs ++ List.replicate pad 0) ((figs.length + pad) / 4)).take (ocOf ns).length = ocOf ns
  run : ∀ x, x < 65536 → runF x (dueOf ns) < 65536 ∧ runF x (dueOf ns) / 4096 = x / 4096
  told : toldTo (answ (modeOf ns) (dueOf ns)) (modeOf ns % 4096) 12 = runF (modeOf ns) (dueOf ns) % 4096
structure FmOk (x : Nat) : Prop where
  len : (fm ((x : Nat) : Int)).cps.size = 10
  kind : (fm ((x : Nat) : Int)).cps.getD 0 0 = signC (x / 4096)
  rights : rightsTo (fm ((x : Nat) : Int)) 9 = x % 4096
theorem and_kind (m : Nat) (h : m < 65536) : Builtin.bitAnd (m : Int) 61440 = ((kindOf2 m : Nat) : Int) := by
  rw [show (61440 : Int) = ((61440 : Nat) : Int) from rfl, band_nat]
  congr 1
  unfold kindOf2
  apply Nat.eq_of_testBit_eq
  intro i
  rw [Nat.testBit_and, show (61440 : Nat) = 15 * 2 ^ 12 by rfl, show (4096 : Nat) = 2 ^ 12 by rfl, Nat.testBit_mul_two_pow, Nat.testBit_mul_two_pow, Nat.testBit_div_two_pow]
  by_cases q : 12 ≤ i
  · rw [decide_eq_true q, Bool.true_and, Bool.true_and, Nat.sub_add_cancel q]
    by_cases q2 : i < 16
    · have : (15 : Nat).testBit (i - 12) = true := by
        have : i - 12 < 4 := by omega
        generalize i - 12 = j at this
        match j, this with
        | 0, _ => rfl
        | 1, _ => rfl
        | 2, _ => rfl
        | 3, _ => rfl
      rw [this, Bool.and_true]
    · have : m.testBit i = false := Nat.testBit_lt_two_pow (Nat.lt_of_lt_of_le h (show 65536 ≤ 2 ^ i from Nat.pow_le_pow_right (n := 2) (by omega) (show 16 ≤ i by omega)))
      rw [this, Bool.false_and]
  · rw [decide_eq_false q]; simp
theorem and_rights (m : Nat) : Builtin.bitAnd (m : Int) 4095 = ((m % 4096 : Nat) : Int) := by
  rw [show (4095 : Int) = ((4095 : Nat) : Int) from rfl, band_nat, show (4095 : Nat) = 2 ^ 12 - 1 by rfl, Nat.and_two_pow_sub_one_eq_mod]
end Mine

open PySem PySem.W PySem.W.X PyProof.Rows PySem.Calls PySem.Spec
set_option Elab.async false
namespace Mine
set_option maxRecDepth 100000
set_option maxHeartbeats 1000000
set_option linter.unusedVariables false
/-- the figures of a run of octets -/
def figs3 : List Nat → List Nat
  | a :: b :: c :: r => a / 4 :: (a % 4 * 16 + b / 16) :: (b % 16 * 4 + c / 64) :: c % 64 :: figs3 r
  | [a, b] => [a / 4, a % 4 * 16 + b / 16, b % 16 * 4]
  | [a] => [a / 4, a % 4 * 16]
  | [] => []
def pad3 (l : List Nat) : Nat := (3 - l.length % 3) % 3
theorem figs3_cons (a b c : Nat) (r : List Nat) : figs3 (a :: b :: c :: r) = a / 4 :: (a % 4 * 16 + b / 16) :: (b % 16 * 4 + c / 64) :: c % 64 :: figs3 r := by rw [figs3]
theorem figs3_two (a b : Nat) : figs3 [a, b] = [a / 4, a % 4 * 16 + b / 16, b % 16 * 4] := by rw [figs3]
theorem figs3_one (a : Nat) : figs3 [a] = [a / 4, a % 4 * 16] := by rw [figs3]
theorem figs3_nil : figs3 [] = [] := by rw [figs3]
theorem figs3_len : ∀ l, (figs3 l).length = (4 * l.length + 2) / 3
  | a :: b :: c :: r => by rw [figs3_cons]; simp only [List.length_cons, figs3_len r]; omega
  | [a, b] => by rw [figs3_two]; simp
  | [a] => by rw [figs3_one]; simp
  | [] => by rw [figs3_nil]; rfl
theorem figs3_lt : ∀ l, (∀ x ∈ l, x < 256) → ∀ x ∈ figs3 l, x < 64
  | a :: b :: c :: r, h, x, hx => by
    have ha := h a (by simp)
    have hb := h b (by simp)
    have hc := h c (by simp)
    rw [figs3_cons] at hx
    simp only [List.mem_cons] at hx
    rcases hx with rfl | rfl | rfl | rfl | q
    · omega
    · omega
    · omega
    · omega
    · exact figs3_lt r (fun y hy => h y (by simp [hy])) x q
  | [a, b], h, x, hx => by
    have ha := h a (by simp)
    have hb := h b (by simp)
    rw [figs3_two] at hx
    simp only [List.mem_cons, List.mem_nil_iff, or_false] at hx
    rcases hx with rfl | rfl | rfl <;> omega
  | [a], h, x, hx => by
    have ha := h a (by simp)
    rw [figs3_one] at hx
    simp only [List.mem_cons, List.mem_nil_iff, or_false] at hx
    rcases hx with rfl | rfl <;> omega
  | [], h, x, hx => by rw [figs3_nil] at hx; exact nomatch hx
theorem b6in_eq (lc b : Nat) (h : b < 256) : b6in lc b = (lc % 256) * 256 + b := by
  unfold b6in
  rw [show (65535 : Nat) = 2 ^ 16 - 1 by rfl, Nat.and_two_pow_sub_one_eq_mod, show lc * 256 = 2 ^ 8 * lc by rw [Nat.mul_comm], ← Nat.two_pow_add_eq_or_of_lt (by omega)]
  omega
theorem b6turn_0 (out : List Nat) (lc a : Nat) (h : a < 256) : b6turn ⟨out, lc, 0⟩ a = ⟨out ++ [al (a / 4)], (lc % 256) * 256 + a, 2⟩ := by
  have e := b6turn_eq ⟨out, lc, 0⟩ a (.inl rfl)
  have hn : b6n ⟨out, lc, 0⟩ = 1 := rfl
  have hs : b6sgs ⟨out, lc, 0⟩ a 1 = [al (a / 4)] := by
    unfold b6sgs b6sign
    show [al (b6in lc a / 2 ^ (0 + 8 - 6 * 0 - 6) % 64)] = _
    rw [b6in_eq lc a h]
    congr 2; simp; omega
  rw [hn, hs, b6in_eq lc a h] at e
  cases q : b6turn ⟨out, lc, 0⟩ a with
  | mk o l b => rw [q] at e; obtain ⟨e1, e2, e3⟩ := e; simp only at e1 e2 e3; rw [e1, e2, e3]
theorem b6turn_2 (out : List Nat) (lc b : Nat) (h : b < 256) : b6turn ⟨out, lc, 2⟩ b = ⟨out ++ [al (lc % 4 * 16 + b / 16)], (lc % 256) * 256 + b, 4⟩ := by
  have e := b6turn_eq ⟨out, lc, 2⟩ b (.inr (.inl rfl))
  have hn : b6n ⟨out, lc, 2⟩ = 1 := rfl
  have hs : b6sgs ⟨out, lc, 2⟩ b 1 = [al (lc % 4 * 16 + b / 16)] := by
    unfold b6sgs b6sign
    show [al (b6in lc b / 2 ^ (2 + 8 - 6 * 0 - 6) % 64)] = _
    rw [b6in_eq lc b h]
    congr 2; simp; omega
  rw [hn, hs, b6in_eq lc b h] at e
  cases q : b6turn ⟨out, lc, 2⟩ b with
  | mk o l b => rw [q] at e; obtain ⟨e1, e2, e3⟩ := e; simp only at e1 e2 e3; rw [e1, e2, e3]
theorem b6turn_4 (out : List Nat) (lc c : Nat) (h : c < 256) : b6turn ⟨out, lc, 4⟩ c = ⟨out ++ [al (lc % 16 * 4 + c / 64), al (c % 64)], (lc % 256) * 256 + c, 0⟩ := by
  have e := b6turn_eq ⟨out, lc, 4⟩ c (.inr (.inr rfl))
  have hn : b6n ⟨out, lc, 4⟩ = 2 := rfl
  have hs : b6sgs ⟨out, lc, 4⟩ c 2 = [al (lc % 16 * 4 + c / 64), al (c % 64)] := by
    unfold b6sgs b6sign
    show [al (b6in lc c / 2 ^ (4 + 8 - 6 * 0 - 6) % 64), al (b6in lc c / 2 ^ (4 + 8 - 6 * 1 - 6) % 64)] = _
    rw [b6in_eq lc c h, show (lc % 256 * 256 + c) / 2 ^ (4 + 8 - 6 * 0 - 6) % 64 = lc % 16 * 4 + c / 64 by simp; omega, show (lc % 256 * 256 + c) / 2 ^ (4 + 8 - 6 * 1 - 6) % 64 = c % 64 by simp; omega]
  rw [hn, hs, b6in_eq lc c h] at e
  cases q : b6turn ⟨out, lc, 4⟩ c with
  | mk o l b => rw [q] at e; obtain ⟨e1, e2, e3⟩ := e; simp only at e1 e2 e3; rw [e1, e2, e3]
theorem b64_go : ∀ (l : List Nat) (out : List Nat) (lc : Nat), (∀ x ∈ l, x < 256) → b6end (l.foldl b6turn ⟨out, lc, 0⟩) = out ++ lineOf (figs3 l) (pad3 l)
  | a :: b :: c :: r, out, lc, h => by
    have ha := h a (by simp)
    have hb := h b (by simp)
    have hc := h c (by simp)
    rw [List.foldl_cons, List.foldl_cons, List.foldl_cons, b6turn_0 _ _ _ ha, b6turn_2 _ _ _ hb, b6turn_4 _ _ _ hc, b64_go r _ _ (fun x hx => h x (by simp [hx]))]
    have e1 : (lc % 256 * 256 + a) % 4 = a % 4 := by omega
    have e2 : ((lc % 256 * 256 + a) % 256 * 256 + b) % 16 = b % 16 := by omega
    have e3 : pad3 (a :: b :: c :: r) = pad3 r := by unfold pad3; simp only [List.length_cons]; omega
    rw [e1, e2, e3, figs3_cons]
    unfold lineOf
    simp
  | [a, b], out, lc, h => by
    have ha := h a (by simp)
    have hb := h b (by simp)
    rw [List.foldl_cons, List.foldl_cons, List.foldl_nil, b6turn_0 _ _ _ ha, b6turn_2 _ _ _ hb]
    have e1 : (lc % 256 * 256 + a) % 4 = a % 4 := by omega
    have e2 : ((lc % 256 * 256 + a) % 256 * 256 + b) % 16 = b % 16 := by omega
    unfold b6end
    rw [if_neg (by simp), if_pos rfl]
    simp only
    rw [e1, e2, figs3_two]
    unfold lineOf
    simp [pad3]
  | [a], out, lc, h => by
    have ha := h a (by simp)
    rw [List.foldl_cons, List.foldl_nil, b6turn_0 _ _ _ ha]
    have e1 : (lc % 256 * 256 + a) % 4 = a % 4 := by omega
    unfold b6end
    rw [if_pos rfl]
    simp only
    rw [e1, figs3_one]
    unfold lineOf
    simp [pad3]
  | [], out, lc, h => by
    rw [List.foldl_nil]
    unfold b6end
    rw [if_neg (by simp), if_neg (by simp), figs3_nil]
    unfold lineOf
    simp [pad3]
theorem b64_line (l : List Nat) (h : ∀ x ∈ l, x < 256) : b64 l = lineOf (figs3 l) (pad3 l) := by
  have := b64_go l [] 0 h
  rw [List.nil_append] at this
  exact this
theorem pad3_ok (l : List Nat) : pad3 l = (4 - (figs3 l).length % 4) % 4 := by
  rw [figs3_len]
  unfold pad3
  have h1 : l.length % 3 = 0 ∨ l.length % 3 = 1 ∨ l.length % 3 = 2 := by omega
  have h2 := Nat.div_add_mod l.length 3
  generalize l.length / 3 = q at h2
  rcases h1 with r | r | r <;> (rw [r] at h2 ⊢; rw [← h2])
  · rw [show (4 * (3 * q + 0) + 2) / 3 = 4 * q by omega]; omega
  · rw [show (4 * (3 * q + 1) + 2) / 3 = 4 * q + 2 by omega]; omega
  · rw [show (4 * (3 * q + 2) + 2) / 3 = 4 * q + 3 by omega]; omega
theorem quad_cons (a b c d : Nat) (r : List Nat) (j : Nat) : quad (a :: b :: c :: d :: r) (j + 1) = quad r j := by
  unfold quad
  rw [show 4 * (j + 1) = 4 * j + 4 by omega, ← List.drop_drop]
  congr 1
  rw [List.drop_drop, Nat.add_comm (4 * j) 4, ← List.drop_drop, show List.drop 4 (a :: b :: c :: d :: r) = r from rfl]
theorem oct_cons (a b c d : Nat) (r : List Nat) (n : Nat) : octTo (a :: b :: c :: d :: r) (n + 1) = trip (val64 [a, b, c, d]) ++ octTo r n := by
  unfold octTo
  rw [List.range_succ_eq_map, List.flatMap_cons, List.flatMap_map]
  simp only [quad_cons]
  rfl
theorem trip_val (a b c : Nat) (ha : a < 256) (hb : b < 256) (hc : c < 256) : trip (val64 [a / 4, a % 4 * 16 + b / 16, b % 16 * 4 + c / 64, c % 64]) = [a, b, c] := by
  have e : val64 [a / 4, a % 4 * 16 + b / 16, b % 16 * 4 + c / 64, c % 64] = a * 65536 + b * 256 + c := by
    unfold val64
    simp only [List.foldl_cons, List.foldl_nil]
    omega
  rw [e]; unfold trip
  congr 1
  · omega
  · congr 1
    · omega
    · congr 1; omega
theorem oct_back : ∀ (l : List Nat), (∀ x ∈ l, x < 256) → octTo (figs3 l ++ List.replicate (pad3 l) 0) (((figs3 l).length + pad3 l) / 4) = l ++ List.replicate (pad3 l) 0
  | a :: b :: c :: r, h => by
    have ha := h a (by simp)
    have hb := h b (by simp)
    have hc := h c (by simp)
    have e3 : pad3 (a :: b :: c :: r) = pad3 r := by unfold pad3; simp only [List.length_cons]; omega
    have e4 : ((figs3 (a :: b :: c :: r)).length + pad3 r) / 4 = ((figs3 r).length + pad3 r) / 4 + 1 := by
      rw [figs3_len, figs3_len]; simp only [List.length_cons]; omega
    rw [e3, e4]
    have e5 : figs3 (a :: b :: c :: r) ++ List.replicate (pad3 r) 0 = a / 4 :: (a % 4 * 16 + b / 16) :: (b % 16 * 4 + c / 64) :: c % 64 :: (figs3 r ++ List.replicate (pad3 r) 0) := by
      rw [figs3_cons]; rfl
    rw [e5, oct_cons, oct_back r (fun x hx => h x (by simp [hx])), trip_val a b c ha hb hc]
    rfl
  | [a, b], h => by
    have ha := h a (by simp)
    have hb := h b (by simp)
    have := trip_val a b 0 ha hb (by omega)
    rw [figs3_two, show pad3 [a, b] = 1 by simp [pad3]]
    show octTo [a / 4, a % 4 * 16 + b / 16, b % 16 * 4, 0] (4 / 4) = [a, b, 0]
    rw [show 4 / 4 = 1 by rfl]
    rw [oct_cons]
    simpa [octTo] using this
  | [a], h => by
    have ha := h a (by simp)
    have := trip_val a 0 0 ha (by omega) (by omega)
    rw [figs3_one, show pad3 [a] = 2 by simp [pad3]]
    show octTo [a / 4, a % 4 * 16, 0, 0] (4 / 4) = [a, 0, 0]
    rw [show 4 / 4 = 1 by rfl]
    rw [oct_cons]
    simpa [octTo] using this
  | [], h => by rw [figs3_nil]; rfl
theorem line_plain (l : List Nat) (h : ∀ x ∈ l, x < 256) : ∃ figs pad, b64 l = lineOf figs pad ∧ figs.length = (4 * l.length + 2) / 3 ∧ pad = (4 - figs.length % 4) % 4 ∧ (∀ x ∈ figs, x < 64) ∧
    (octTo (figs ++ List.replicate pad 0) ((figs.length + pad) / 4)).drop l.length = List.replicate ((octTo (figs ++ List.replicate pad 0) ((figs.length + pad) / 4)).length - l.length) 0 ∧
    (octTo (figs ++ List.replicate pad 0) ((figs.length + pad) / 4)).take l.length = l := by
  refine ⟨figs3 l, pad3 l, b64_line l h, figs3_len l, pad3_ok l, figs3_lt l h, ?_, ?_⟩
  · rw [oct_back l h, List.drop_append_of_le_length (Nat.le_refl _), List.drop_length, List.length_append, List.length_replicate, Nat.add_sub_cancel_left]; rfl
  · rw [oct_back l h, List.take_append_of_le_length (Nat.le_refl _), List.take_length]
end Mine

open PySem PySem.W PySem.W.X PyProof.Rows PySem.Calls PySem.Spec
set_option Elab.async false
namespace Mine
set_option maxRecDepth 100000
set_option maxHeartbeats 1000000
set_option linter.unusedVariables false
/-- where a deed's bit comes from -/
theorem sub_is_xor (m r : Nat) : m - (m &&& r) = m ^^^ (m &&& r) := by
  have h1 := and_xor_nat m (m &&& r)
  have h2 : m &&& (m &&& r) = m &&& r := by rw [← Nat.and_assoc, Nat.and_self]
  rw [h2] at h1
  have := and_le_left m r
  omega
theorem copy_bit (m f s p : Nat) : (m + m / 2 ^ f % 8 * 2 ^ s - m / 2 ^ s % 8 * 2 ^ s).testBit p = if s ≤ p ∧ p < s + 3 then m.testBit (f + (p - s)) else m.testBit p := by
  have e1 : m = 2 ^ s * (2 ^ 3 * (m / 2 ^ (s + 3)) + m / 2 ^ s % 2 ^ 3) + m % 2 ^ s := by
    have h1 := Nat.div_add_mod m (2 ^ s)
    have h2 := Nat.div_add_mod (m / 2 ^ s) (2 ^ 3)
    rw [Nat.div_div_eq_div_mul, ← Nat.pow_add] at h2
    rw [h2]; exact h1.symm
  have e2 : m + m / 2 ^ f % 8 * 2 ^ s - m / 2 ^ s % 8 * 2 ^ s = 2 ^ s * (2 ^ 3 * (m / 2 ^ (s + 3)) + m / 2 ^ f % 2 ^ 3) + m % 2 ^ s := by
    have h8 : (8 : Nat) = 2 ^ 3 := rfl
    rw [h8]
    have hx : m + m / 2 ^ f % 2 ^ 3 * 2 ^ s - m / 2 ^ s % 2 ^ 3 * 2 ^ s = 2 ^ s * (2 ^ 3 * (m / 2 ^ (s + 3))) + m % 2 ^ s + m / 2 ^ f % 2 ^ 3 * 2 ^ s := by
      have := e1
      rw [Nat.mul_add] at this
      have c1 : m / 2 ^ s % 2 ^ 3 * 2 ^ s = 2 ^ s * (m / 2 ^ s % 2 ^ 3) := Nat.mul_comm _ _
      omega
    rw [hx, Nat.mul_add, Nat.mul_comm (m / 2 ^ f % 2 ^ 3) (2 ^ s)]; omega
  rw [e2, Nat.testBit_two_pow_mul_add _ (Nat.mod_lt _ (Nat.two_pow_pos s)), Nat.testBit_two_pow_mul_add _ (Nat.mod_lt _ (Nat.two_pow_pos 3))]
  by_cases h1 : p < s
  · rw [if_pos h1, if_neg (by omega), Nat.testBit_mod_two_pow, decide_eq_true h1, Bool.true_and]
  · rw [if_neg h1]
    by_cases h2 : p - s < 3
    · rw [if_pos h2, if_pos (by omega), Nat.testBit_mod_two_pow, decide_eq_true h2, Bool.true_and, Nat.testBit_div_two_pow, Nat.add_comm]
    · rw [if_neg h2, if_neg (by omega), Nat.testBit_div_two_pow]
      congr 1; omega
theorem step_bit (m d p : Nat) : (runStep m d).testBit p =
    if d % 4 = 0 then (m.testBit p || (d / 4).testBit p)
    else if d % 4 = 1 then (m.testBit p && !(d / 4).testBit p)
    else if d % 4 = 2 then (m.testBit p ^^ (d / 4).testBit p)
    else if runShift (d / 4) ≤ p ∧ p < runShift (d / 4) + 3 then m.testBit (runFrom (d / 4) + (p - runShift (d / 4))) else m.testBit p := by
  unfold runStep
  by_cases h0 : d % 4 = 0
  · rw [if_pos h0, if_pos h0, Nat.testBit_or]
  · rw [if_neg h0, if_neg h0]
    by_cases h1 : d % 4 = 1
    · rw [if_pos h1, if_pos h1, sub_is_xor, Nat.testBit_xor, Nat.testBit_and]
      cases m.testBit p <;> cases (d / 4).testBit p <;> rfl
    · rw [if_neg h1, if_neg h1]
      by_cases h2 : d % 4 = 2
      · rw [if_pos h2, if_pos h2, Nat.testBit_xor]
      · rw [if_neg h2, if_neg h2, copy_bit]
/-- the kind stays -/
theorem step_high (m d p : Nat) (hd : d < 16384) (hp : 12 ≤ p) : (runStep m d).testBit p = m.testBit p := by
  have h4 : (d / 4).testBit p = false := Nat.testBit_lt_two_pow (Nat.lt_of_lt_of_le (show d / 4 < 4096 by omega) (Nat.pow_le_pow_right (n := 2) (by omega) hp))
  rw [step_bit, h4]
  have hs : runShift (d / 4) ≤ 6 := by unfold runShift; omega
  rw [if_neg (show ¬ (runShift (d / 4) ≤ p ∧ p < runShift (d / 4) + 3) by omega)]
  cases m.testBit p <;> simp
theorem run_high (due : List Nat) (hd : ∀ d ∈ due, d < 16384) : ∀ (m p : Nat), 12 ≤ p → (runF m due).testBit p = m.testBit p := by
  induction due with
  | nil => intro m p _; rfl
  | cons d due ih =>
    intro m p hp
    show (runF (runStep m d) due).testBit p = _
    rw [ih (fun x hx => hd x (List.mem_cons_of_mem _ hx)) _ p hp, step_high m d p (hd d List.mem_cons_self) hp]
theorem run_kind (due : List Nat) (hd : ∀ d ∈ due, d < 16384) (m : Nat) : runF m due / 4096 = m / 4096 := by
  apply Nat.eq_of_testBit_eq
  intro i
  rw [show (4096 : Nat) = 2 ^ 12 from rfl, Nat.testBit_div_two_pow, Nat.testBit_div_two_pow]
  exact run_high due hd m _ (by omega)
theorem run_lt (due : List Nat) (hd : ∀ d ∈ due, d < 16384) (m : Nat) (h : m < 65536) : runF m due < 65536 := by
  have := run_kind due hd m; omega
/-- each right behind the run is told by none or by one right before it -/
def FromOne (f : (Nat → Bool) → Bool) : Prop := (∃ b, ∀ g, f g = b) ∨ ∃ s c, s < 12 ∧ ∀ g, f g = (g s ^^ c)
theorem run_bit (due : List Nat) : ∀ p, p < 12 → ∃ f : (Nat → Bool) → Bool, FromOne f ∧ ∀ m : Nat, (runF m due).testBit p = f m.testBit := by
  have gen : ∀ (due : List Nat), ∀ p, p < 12 → ∃ f : (Nat → Bool) → Bool, FromOne f ∧ ∀ m : Nat, (runF m due).testBit p = f m.testBit := by
    intro due
    induction due with
    | nil => exact fun p hp => ⟨fun g => g p, .inr ⟨p, false, hp, fun g => by simp⟩, fun m => rfl⟩
    | cons d due ih =>
      intro p hp
      obtain ⟨f, hf, he⟩ := ih p hp
      have step : ∀ s, s < 12 → ∃ f : (Nat → Bool) → Bool, FromOne f ∧ ∀ m : Nat, (runStep m d).testBit s = f m.testBit := by
        intro s hs
        by_cases h0 : d % 4 = 0
        · refine ⟨fun g => g s || (d / 4).testBit s, ?_, fun m => by rw [step_bit, if_pos h0]⟩
          cases q : (d / 4).testBit s with
          | true => exact .inl ⟨true, fun g => by simp⟩
          | false => exact .inr ⟨s, false, hs, fun g => by simp⟩
        · by_cases h1 : d % 4 = 1
          · refine ⟨fun g => g s && !(d / 4).testBit s, ?_, fun m => by rw [step_bit, if_neg h0, if_pos h1]⟩
            cases q : (d / 4).testBit s with
            | true => exact .inl ⟨false, fun g => by simp⟩
            | false => exact .inr ⟨s, false, hs, fun g => by simp⟩
          · by_cases h2 : d % 4 = 2
            · exact ⟨fun g => g s ^^ (d / 4).testBit s, .inr ⟨s, _, hs, fun g => rfl⟩, fun m => by rw [step_bit, if_neg h0, if_neg h1, if_pos h2]⟩
            · by_cases h3 : runShift (d / 4) ≤ s ∧ s < runShift (d / 4) + 3
              · refine ⟨fun g => g (runFrom (d / 4) + (s - runShift (d / 4))), .inr ⟨runFrom (d / 4) + (s - runShift (d / 4)), false, ?_, fun g => by simp⟩, fun m => by rw [step_bit, if_neg h0, if_neg h1, if_neg h2, if_pos h3]⟩
                have : runFrom (d / 4) ≤ 6 := by unfold runFrom; omega
                omega
              · exact ⟨fun g => g s, .inr ⟨s, false, hs, fun g => by simp⟩, fun m => by rw [step_bit, if_neg h0, if_neg h1, if_neg h2, if_neg h3]⟩
      rcases hf with ⟨b, hb⟩ | ⟨s, c, hs, hg⟩
      · exact ⟨fun _ => b, .inl ⟨b, fun _ => rfl⟩, fun m => by show (runF (runStep m d) due).testBit p = _; rw [he, hb]⟩
      · obtain ⟨f2, hf2, he2⟩ := step s hs
        refine ⟨fun g => f2 g ^^ c, ?_, fun m => by show (runF (runStep m d) due).testBit p = _; rw [he, hg, he2]⟩
        rcases hf2 with ⟨b, hb⟩ | ⟨s2, c2, hs2, hg2⟩
        · exact .inl ⟨b ^^ c, fun g => by simp only [hb]⟩
        · exact .inr ⟨s2, c2 ^^ c, hs2, fun g => by simp only [hg2, Bool.xor_assoc]⟩
  exact gen due
theorem bitN_test (a p : Nat) : bitN a p = (a.testBit p).toNat := by
  unfold bitN
  rw [Nat.testBit_eq_decide_div_mod_eq]
  rcases Nat.mod_two_eq_zero_or_one (a / 2 ^ p) with h | h <;> rw [h] <;> rfl
theorem answ_bit (m : Nat) (due : List Nat) (i p : Nat) (hi : i < 6) (hp : p < 12) : tb (answ m due) i p = ((runF (kindOf2 m + probes.getD i 0) due).testBit p).toNat := by
  unfold tb answ
  have hl : i < probes.length := hi
  rw [List.getD_eq_getElem?_getD, List.getElem?_map, List.getElem?_eq_getElem hl, List.getD_eq_getElem?_getD, List.getElem?_eq_getElem hl]
  show bitN (runF (kindOf2 m + probes[i]) due % 4096) p = _
  rw [bitN_test, show (4096 : Nat) = 2 ^ 12 from rfl, Nat.testBit_mod_two_pow, decide_eq_true hp]; rfl
theorem low_bit (m x s : Nat) (hx : x < 4096) (hs : s < 12) : (kindOf2 m + x).testBit s = x.testBit s := by
  unfold kindOf2
  rw [show m / 4096 * 4096 = 2 ^ 12 * (m / 4096) by rw [Nat.mul_comm], Nat.testBit_two_pow_mul_add _ hx, if_pos hs]
theorem probe_at : ∀ s, s < 12 → (probes.getD 0 0).testBit s = false ∧ (probes.getD 1 0).testBit s = true ∧ (probes.getD 2 0).testBit s = s.testBit 0 ∧ (probes.getD 3 0).testBit s = s.testBit 1 ∧ (probes.getD 4 0).testBit s = s.testBit 2 ∧ (probes.getD 5 0).testBit s = s.testBit 3 := by decide
theorem src_at : ∀ s, s < 12 → (s.testBit 0).toNat * 2 ^ 0 + ((s.testBit 1).toNat * 2 ^ 1 + ((s.testBit 2).toNat * 2 ^ 2 + ((s.testBit 3).toNat * 2 ^ 3 + 0))) = s := by decide
theorem xor_back (a c : Bool) : (a ^^ c).toNat ^^^ c.toNat = a.toNat := by cases a <;> cases c <;> rfl
theorem xor_bit (a c : Bool) : c.toNat ^^^ a.toNat = (a ^^ c).toNat := by cases a <;> cases c <;> rfl
theorem told_bit (m : Nat) (due : List Nat) (p : Nat) (hp : p < 12) : toldBit (answ m due) (m % 4096) p = ((runF m due).testBit p).toNat := by
  obtain ⟨f, hf, he⟩ := run_bit due p hp
  have hlt : ∀ i, i < 6 → probes.getD i 0 < 4096 := by decide
  have hb : ∀ i, i < 6 → tb (answ m due) i p = (f (kindOf2 m + probes.getD i 0).testBit).toNat := fun i hi => by rw [answ_bit m due i p hi hp, he]
  have hm : m = kindOf2 m + m % 4096 := by unfold kindOf2; omega
  rcases hf with ⟨b, hc⟩ | ⟨s, c, hs, hg⟩
  · have h : ∀ i, i < 6 → tb (answ m due) i p = b.toNat := fun i hi => by rw [hb i hi, hc]
    unfold toldBit
    rw [h 0 (by omega), h 1 (by omega), Nat.xor_self, Nat.zero_and, Nat.xor_zero, he, hc]
  · have h : ∀ i, i < 6 → tb (answ m due) i p = ((probes.getD i 0).testBit s ^^ c).toNat := fun i hi => by rw [hb i hi, hg, low_bit m _ s (hlt i hi) hs]
    obtain ⟨p0, p1, p2, p3, p4, p5⟩ := probe_at s hs
    have h0 : tb (answ m due) 0 p = c.toNat := by rw [h 0 (by omega), p0, Bool.false_xor]
    have hsrc : tsrc (answ m due) p = s := by
      unfold tsrc
      simp only [List.range_succ, List.range_zero, List.map_cons, List.map_nil, List.nil_append, List.cons_append, List.sum_cons, List.sum_nil]
      rw [h (2 + 0) (by omega), h (2 + 1) (by omega), h (2 + 2) (by omega), h (2 + 3) (by omega), h0, show probes.getD (2 + 0) 0 = probes.getD 2 0 from rfl, show probes.getD (2 + 1) 0 = probes.getD 3 0 from rfl, show probes.getD (2 + 2) 0 = probes.getD 4 0 from rfl, show probes.getD (2 + 3) 0 = probes.getD 5 0 from rfl, p2, p3, p4, p5, xor_back, xor_back, xor_back, xor_back]
      exact src_at s hs
    unfold toldBit
    rw [hsrc, h0, h 1 (by omega), p1, he, hg]
    have e1 : c.toNat ^^^ (true ^^ c).toNat = 1 := by cases c <;> rfl
    have e2 : 1 &&& (m % 4096 / 2 ^ s) = (m.testBit s).toNat := by
      rw [Nat.and_comm, Nat.and_one_is_mod, ← show bitN (m % 4096) s = m % 4096 / 2 ^ s % 2 from rfl, bitN_test, show (4096 : Nat) = 2 ^ 12 from rfl, Nat.testBit_mod_two_pow, decide_eq_true hs, Bool.true_and]
    rw [e1, e2, xor_bit]
theorem bits_sum (x : Nat) : ∀ n, ((List.range n).map fun p => (x.testBit p).toNat * 2 ^ p).sum = x % 2 ^ n
  | 0 => by simp [Nat.mod_one]
  | n + 1 => by
    rw [List.range_succ, List.map_append, List.sum_append, bits_sum x n]
    simp only [List.map_cons, List.map_nil, List.sum_cons, List.sum_nil, Nat.add_zero]
    rw [Nat.mod_pow_succ, ← bitN_test]
    unfold bitN
    rw [Nat.mul_comm]
theorem told_all (m : Nat) (due : List Nat) : toldTo (answ m due) (m % 4096) 12 = runF m due % 4096 := by
  unfold toldTo
  rw [show (4096 : Nat) = 2 ^ 12 from rfl, ← bits_sum (runF m due) 12]
  congr 1
  apply List.map_congr_left
  intro p hp
  rw [show (2 : Nat) ^ 12 = 4096 from rfl, told_bit m due p (by simpa using hp)]
theorem plain2 (ns : List Int) : Plain2 ns := ⟨line_plain _ (oc_lt ns), fun x hx => ⟨run_lt _ (due_lt ns) x hx, run_kind _ (due_lt ns) x⟩, told_all _ _⟩
end Mine

open PySem PySem.W PySem.W.X PyProof.Rows PySem.Calls PySem.Spec
set_option Elab.async false
namespace Mine
set_option maxRecDepth 100000
set_option maxHeartbeats 1000000
set_option linter.unusedVariables false
/-- the signs of filemode, one by one -/
def kindC (q : Nat) : Nat := signC q
def rwC (x j ch : Nat) : Nat := if x.testBit j then ch else 45
def xC (x a b s1 s2 s3 : Nat) : Nat := if x.testBit a then (if x.testBit b then s1 else s2) else if x.testBit b then s3 else 45
theorem bandI (x b : Nat) (c : Int) (h : c = ((b : Nat) : Int)) : (Builtin.bitAnd ((x : Nat) : Int) c == c) = decide (x &&& b = b) := by
  subst h
  rw [band_nat, Bool.eq_iff_iff, beq_iff_eq, decide_eq_true_eq]; omega
theorem and_pow (x j : Nat) : x &&& 2 ^ j = if x.testBit j then 2 ^ j else 0 := by
  apply Nat.eq_of_testBit_eq
  intro i
  rw [Nat.testBit_and, Nat.testBit_two_pow]
  by_cases h : j = i
  · subst h
    cases q : x.testBit j with
    | true => simp [Nat.testBit_two_pow_self]
    | false => simp
  · rw [decide_eq_false h, Bool.and_false]
    cases q : x.testBit j with
    | true => rw [if_pos rfl, Nat.testBit_two_pow, decide_eq_false h]
    | false => simp
theorem hit_one (x j : Nat) : decide (x &&& 2 ^ j = 2 ^ j) = x.testBit j := by
  rw [and_pow]
  have := Nat.two_pow_pos j
  cases x.testBit j with
  | true => simp
  | false => simp; omega
theorem hit_two (x a b : Nat) (hab : a ≠ b) : decide (x &&& (2 ^ a ||| 2 ^ b) = 2 ^ a ||| 2 ^ b) = (x.testBit a && x.testBit b) := by
  rw [Bool.eq_iff_iff, decide_eq_true_eq, Bool.and_eq_true]
  constructor
  · intro h
    have h1 := congrArg (·.testBit a) h
    have h2 := congrArg (·.testBit b) h
    simp only [Nat.testBit_and, Nat.testBit_or, Nat.testBit_two_pow_self, Bool.true_or, Bool.or_true, Bool.and_true] at h1 h2
    exact ⟨h1, h2⟩
  · rintro ⟨h1, h2⟩
    rw [Nat.and_or_distrib_left, and_pow, and_pow, h1, h2]; simp
theorem dash_one : Str.ofString "-" = one 45 := by decide +kernel
theorem pick_rw (i x j : Nat) (c : Int) (ch : Nat) (s : Str) (hi : i ≠ 0) (hc : c = ((2 ^ j : Nat) : Int)) (hs : s = one ch) : fmPick i ((x : Nat) : Int) [(c, s)] = one (rwC x j ch) := by
  unfold fmPick fmHit rwC
  simp only [hi, if_false]
  rw [List.find?_cons]
  simp only [bandI x (2 ^ j) c hc, hit_one]
  cases x.testBit j with
  | true => exact hs
  | false => exact dash_one
theorem pick_x (i x a b : Nat) (c1 c2 c3 : Int) (s1 s2 s3 : Nat) (t1 t2 t3 : Str) (hi : i ≠ 0) (hab : a ≠ b) (h1 : c1 = (((2 ^ a ||| 2 ^ b) : Nat) : Int)) (h2 : c2 = ((2 ^ a : Nat) : Int)) (h3 : c3 = ((2 ^ b : Nat) : Int)) (e1 : t1 = one s1) (e2 : t2 = one s2) (e3 : t3 = one s3) :
    fmPick i ((x : Nat) : Int) [(c1, t1), (c2, t2), (c3, t3)] = one (xC x a b s1 s2 s3) := by
  unfold fmPick fmHit xC
  simp only [hi, if_false]
  rw [List.find?_cons]
  simp only [bandI x _ c1 h1, hit_two x a b hab]
  rw [List.find?_cons]
  simp only [bandI x _ c2 h2, hit_one]
  rw [List.find?_cons]
  simp only [bandI x _ c3 h3, hit_one]
  cases x.testBit a <;> cases x.testBit b
  · exact dash_one
  · exact e3
  · exact e2
  · exact e1
theorem pick_kind : ∀ q, q < 16 → (match (fmTabs.getD 0 []).find? (fun p => ((q * 4096 : Nat) : Int) == p.1) with | some p => p.2 | none => "?") = one (signC q) := by decide +kernel
theorem pick_0 (x : Nat) (hx : x < 65536) : fmPick 0 ((x : Nat) : Int) (fmTabs.getD 0 []) = one (signC (x / 4096)) := by
  rw [← pick_kind (x / 4096) (by omega)]
  unfold fmPick
  have : fmHit 0 ((x : Nat) : Int) = fun p : Int × Str => ((x / 4096 * 4096 : Nat) : Int) == p.1 := by
    funext p
    unfold fmHit
    rw [if_pos rfl, and_kind x hx]; rfl
  rw [this]; rfl
def fmCodes (x : Nat) : List Nat := [signC (x / 4096), rwC x 8 114, rwC x 7 119, xC x 11 6 115 83 120, rwC x 5 114, rwC x 4 119, xC x 10 3 115 83 120, rwC x 2 114, rwC x 1 119, xC x 9 0 116 84 120]
theorem join_ten (a b c d e f g h i j : Nat) : Txt.join "" [one a, one b, one c, one d, one e, one f, one g, one h, one i, one j] = ⟨[a, b, c, d, e, f, g, h, i, j].toArray⟩ := by kernel_rfl
theorem fm_codes (x : Nat) (hx : x < 65536) : fm ((x : Nat) : Int) = ⟨(fmCodes x).toArray⟩ := by
  have e : fmChars ((x : Nat) : Int) = (fmCodes x).map one := by
    show [fmPick 0 ((x : Nat) : Int) (fmTabs.getD 0 []), fmPick 1 ((x : Nat) : Int) [(256, "r")], fmPick 2 ((x : Nat) : Int) [(128, "w")], fmPick 3 ((x : Nat) : Int) [(2112, "s"), (2048, "S"), (64, "x")], fmPick 4 ((x : Nat) : Int) [(32, "r")], fmPick 5 ((x : Nat) : Int) [(16, "w")], fmPick 6 ((x : Nat) : Int) [(1032, "s"), (1024, "S"), (8, "x")], fmPick 7 ((x : Nat) : Int) [(4, "r")], fmPick 8 ((x : Nat) : Int) [(2, "w")], fmPick 9 ((x : Nat) : Int) [(513, "t"), (512, "T"), (1, "x")]] = _
    rw [pick_0 x hx, pick_rw 1 x 8 256 114 _ (by omega) rfl (by decide +kernel), pick_rw 2 x 7 128 119 _ (by omega) rfl (by decide +kernel), pick_x 3 x 11 6 2112 2048 64 115 83 120 _ _ _ (by omega) (by omega) (by decide) rfl rfl (by decide +kernel) (by decide +kernel) (by decide +kernel),
      pick_rw 4 x 5 32 114 _ (by omega) rfl (by decide +kernel), pick_rw 5 x 4 16 119 _ (by omega) rfl (by decide +kernel), pick_x 6 x 10 3 1032 1024 8 115 83 120 _ _ _ (by omega) (by omega) (by decide) rfl rfl (by decide +kernel) (by decide +kernel) (by decide +kernel),
      pick_rw 7 x 2 4 114 _ (by omega) rfl (by decide +kernel), pick_rw 8 x 1 2 119 _ (by omega) rfl (by decide +kernel), pick_x 9 x 9 0 513 512 1 116 84 120 _ _ _ (by omega) (by omega) (by decide) rfl rfl (by decide +kernel) (by decide +kernel) (by decide +kernel)]
    rfl
  unfold fm
  rw [e]
  exact join_ten _ _ _ _ _ _ _ _ _ _
/-- what the signs stand for -/
theorem mean_dash : ∀ n, n < 9 → meanV n 45 = 0 := by decide +kernel
theorem mean_rwx : ∀ n, n < 9 → meanV n (rwxC n) = 2 ^ (8 - n) := by decide +kernel
theorem mean_s : ∀ n, n < 9 → n % 3 = 2 → meanV n (letC n) = 2 ^ (8 - n) + 2 ^ (11 - n / 3) ∧ meanV n (upC n) = 2 ^ (11 - n / 3) := by decide +kernel
theorem mean_rwC (n x : Nat) (hn : n < 9) : meanV n (rwC x (8 - n) (rwxC n)) = (x.testBit (8 - n)).toNat * 2 ^ (8 - n) := by
  unfold rwC
  cases x.testBit (8 - n) with
  | true => rw [if_pos rfl, mean_rwx n hn]; simp
  | false => rw [if_neg (by simp), mean_dash n hn]; simp
theorem mean_xC (n x : Nat) (hn : n < 9) (h3 : n % 3 = 2) : meanV n (xC x (11 - n / 3) (8 - n) (letC n) (upC n) (rwxC n)) = (x.testBit (8 - n)).toNat * 2 ^ (8 - n) + (x.testBit (11 - n / 3)).toNat * 2 ^ (11 - n / 3) := by
  unfold xC
  cases x.testBit (11 - n / 3) <;> cases x.testBit (8 - n)
  · simp [mean_dash n hn]
  · simp [mean_rwx n hn]
  · simp [(mean_s n hn h3).2]
  · simp [(mean_s n hn h3).1]
theorem fm_rights (x : Nat) (hx : x < 65536) : rightsTo (fm ((x : Nat) : Int)) 9 = x % 4096 := by
  rw [fm_codes x hx]
  have e : rightsTo ⟨(fmCodes x).toArray⟩ 9 = meanV 0 (rwC x 8 114) + (meanV 1 (rwC x 7 119) + (meanV 2 (xC x 11 6 115 83 120) + (meanV 3 (rwC x 5 114) + (meanV 4 (rwC x 4 119) + (meanV 5 (xC x 10 3 115 83 120) + (meanV 6 (rwC x 2 114) + (meanV 7 (rwC x 1 119) + (meanV 8 (xC x 9 0 116 84 120) + 0)))))))) := rfl
  have m0 : meanV 0 (rwC x 8 114) = (x.testBit 8).toNat * 2 ^ 8 := mean_rwC 0 x (by omega)
  have m1 : meanV 1 (rwC x 7 119) = (x.testBit 7).toNat * 2 ^ 7 := mean_rwC 1 x (by omega)
  have m2 : meanV 2 (xC x 11 6 115 83 120) = (x.testBit 6).toNat * 2 ^ 6 + (x.testBit 11).toNat * 2 ^ 11 := mean_xC 2 x (by omega) rfl
  have m3 : meanV 3 (rwC x 5 114) = (x.testBit 5).toNat * 2 ^ 5 := mean_rwC 3 x (by omega)
  have m4 : meanV 4 (rwC x 4 119) = (x.testBit 4).toNat * 2 ^ 4 := mean_rwC 4 x (by omega)
  have m5 : meanV 5 (xC x 10 3 115 83 120) = (x.testBit 3).toNat * 2 ^ 3 + (x.testBit 10).toNat * 2 ^ 10 := mean_xC 5 x (by omega) rfl
  have m6 : meanV 6 (rwC x 2 114) = (x.testBit 2).toNat * 2 ^ 2 := mean_rwC 6 x (by omega)
  have m7 : meanV 7 (rwC x 1 119) = (x.testBit 1).toNat * 2 ^ 1 := mean_rwC 7 x (by omega)
  have m8 : meanV 8 (xC x 9 0 116 84 120) = (x.testBit 0).toNat * 2 ^ 0 + (x.testBit 9).toNat * 2 ^ 9 := mean_xC 8 x (by omega) rfl
  rw [e, m0, m1, m2, m3, m4, m5, m6, m7, m8, show (4096 : Nat) = 2 ^ 12 from rfl, ← bits_sum x 12]
  simp only [List.range_succ, List.range_zero, List.map_cons, List.map_nil, List.nil_append, List.cons_append, List.sum_cons, List.sum_nil]
  omega
theorem fm_ok (x : Nat) (hx : x < 65536) : FmOk x := by
  refine ⟨?_, ?_, fm_rights x hx⟩
  · rw [fm_codes x hx]; rfl
  · rw [fm_codes x hx]; rfl
end Mine

open PySem PySem.W PyProof.Rows
set_option Elab.async false
namespace Mine
set_option maxRecDepth 100000
set_option maxHeartbeats 8000000
/-- the objects that the text's top leaves, written out by the library's own line -/
local macro_rules | `(tactic| o_head $_) => `(tactic| assumption)
theorem kk (h : (OpenLaw.row PySem.Challenge.rw_om0024_02).Holds) : (OpenLaw.row PySem.Challenge.rw_om0024_02).Holds := by
  k_head
noncomputable def qv : Program := view PySem.Challenge.pw_om0024_02 [43]
abbrev lo : List Str := [Str.ofString "_wall", Str.ofString "_buffer", Str.ofString "_truth", Str.ofString "_B64", Str.ofString "b2a_base64", Str.ofString "b64encode", Str.ofString "COMPILER_FLAG_NAMES", Str.ofString "pretty_flags", Str.ofString "_parse_varint", Str.ofString "S_IMODE", Str.ofString "S_IFMT", Str.ofString "S_IFDIR", Str.ofString "S_IFCHR", Str.ofString "S_IFBLK", Str.ofString "S_IFREG", Str.ofString "S_IFIFO", Str.ofString "S_IFLNK", Str.ofString "S_IFSOCK", Str.ofString "S_ISUID", Str.ofString "S_ISGID", Str.ofString "S_ISVTX", Str.ofString "S_IRUSR", Str.ofString "S_IWUSR", Str.ofString "S_IXUSR", Str.ofString "S_IRGRP", Str.ofString "S_IWGRP", Str.ofString "S_IXGRP", Str.ofString "S_IROTH", Str.ofString "S_IWOTH", Str.ofString "S_IXOTH", Str.ofString "_filemode_table", Str.ofString "filemode", Str.ofString "_law_digits", Str.ofString "_law_octets", Str.ofString "_law_run", Str.ofString "_law_rights", Str.ofString "_law_words", Str.ofString "_law_told"]

abbrev lv : List (Str × WData) := []
abbrev kAs : List Addr := [2, 3, 15, 17, 18, 20, 21, 22, 24, 25, 27, 28, 29, 31, 32, 34, 35, 36, 37, 39, 40, 42, 43, 44, 45, 47, 48, 50, 51, 52, 53, 55, 56, 58, 59, 60, 62, 63, 65, 66, 67, 69, 70, 72, 73, 74, 76, 77, 79, 80, 81, 82, 83, 84, 85, 86, 87, 88, 89, 90, 91, 92, 93, 94, 95, 96, 97, 98, 99, 100, 101, 102, 103, 104, 105, 106, 107, 108, 109, 110, 111, 112, 113, 114, 116, 117, 119, 120, 121, 123, 124, 126, 127, 128, 131, 132, 133, 135, 136, 138, 139, 140, 142, 143, 145, 146, 147, 150, 151, 152, 155, 156, 157, 160, 161]
noncomputable abbrev kH : Hook := kHook Mine.kk.heap_1 kAs (fun _ => by kernel_rfl)
noncomputable abbrev xt (s : Shared) : Bool := xlAt qv lv s && recOk (RowW.records (OpenRow.toRowW (OpenLaw.row PySem.Challenge.rw_om0024_02))) s
noncomputable abbrev topP (w : World) : Prop := (fun os => (topFrom treeTable PySem.Challenge.pw_om0024_02 w 2300 ⟨boot_heap w.params, Array.mk [], boot_drawn, boot_toks, os⟩).map (fun s => (openSeen qv lo (importedModules PySem.Challenge.pw_om0024_02.main.body) xt true s, kH.obs s))) = fun _ => some (openGood qv lo, kH.val w)
theorem top_f (w : World) : topP (w.withFollow "special-get-raises" false) := by kernel_rfl
theorem top_t (w : World) : topP (w.withFollow "special-get-raises" true) := by kernel_rfl
theorem top_left : LeftO PySem.Challenge.pw_om0024_02 qv lo xt kH.obs kH.val 2300 := fun w => by
  obtain ⟨⟨h, gs, d, k, os⟩, e, e'⟩ := Option.map_eq_some_iff.mp (boot_open (p := PySem.Challenge.pw_om0024_02) (N := 2300) (by kernel_rfl) (by kernel_rfl) (fun s => by kernel_rfl) w)
  obtain ⟨rfl, rfl, rfl, rfl⟩ : h = boot_heap w.params ∧ gs = Array.mk [] ∧ d = boot_drawn ∧ k = boot_toks := by simpa using e'
  unfold openEnds
  rw [e]
  exact congrFun (byRow2 "special-get-raises" top_f top_t w) os
end Mine


open PySem PySem.W PySem.W.X PyProof.Rows PySem.Calls PySem.Spec
set_option Elab.async false
namespace Mine
set_option maxRecDepth 100000
set_option maxHeartbeats 1000000
set_option linter.unusedVariables false
set_option pp.deepTerms false
set_option pp.maxSteps 1500

section
variable (w : World) (p : Program) (loose : List Str) (mean : ExcName → Option Value) (mg mb : Str → Option Value)
noncomputable abbrev c1 : Cx := ⟨PySem.Challenge.rw_om0024_02.prog, w, Mine.kk.heap_1 w.params, p, loose, mean, mg, mb⟩
end

theorem warm : ∀ w : World, (Mine.kk.heap_1 w.params, PySem.Challenge.rw_om0024_02.prog) = (Mine.kk.heap_1 w.params, PySem.Challenge.rw_om0024_02.prog) := by
  k_fill
  intro w; rfl

theorem f_ifmt {w p loose mean mg mb} {k : Nat} {x : Int} : FS (c1 w p loose mean mg mb) (k + 1) (.ref 80) [.int x] (.int (Builtin.bitAnd x 61440)) := by
  refine' fs_intro (ps := [Str.ofString "mode"]) ?ho ?hcd ?hb ?hl ?hps ?hk ?hnd ?h1 ?h2 ?h3 ?_
  case ho => (show (Mine.kk.heap_1 w.params).lookup 80 = _); k_dflt k_is
  case hcd => (show codeIn (Mine.kk.heap_1 w.params) _ _ = true); k_dflt k_is
  case hb => intro s vs h; match vs, h with | [a0], _ => exact BindsTo.of_eq rfl
  case hl => rfl
  case h1 => rfl
  case h2 => rfl
  case h3 => rfl
  case hps => decide
  case hk => decide +kernel
  case hnd => decide +kernel
  intro L A β₀ h₀ s₀ Q hQ
  exact x_return (ev_and (ev_name rfl) ev_int) hQ
theorem f_imode {w p loose mean mg mb} {k : Nat} {x : Int} : FS (c1 w p loose mean mg mb) (k + 1) (.ref 73) [.int x] (.int (Builtin.bitAnd x 4095)) := by
  refine' fs_intro (ps := [Str.ofString "mode"]) ?ho ?hcd ?hb ?hl ?hps ?hk ?hnd ?h1 ?h2 ?h3 ?_
  case ho => (show (Mine.kk.heap_1 w.params).lookup 73 = _); k_dflt k_is
  case hcd => (show codeIn (Mine.kk.heap_1 w.params) _ _ = true); k_dflt k_is
  case hb => intro s vs h; match vs, h with | [a0], _ => exact BindsTo.of_eq rfl
  case hl => rfl
  case h1 => rfl
  case h2 => rfl
  case h3 => rfl
  case hps => decide
  case hk => decide +kernel
  case hnd => decide +kernel
  intro L A β₀ h₀ s₀ Q hQ
  exact x_return (ev_and (ev_name rfl) ev_int) hQ
theorem pair_81 {w p loose mean mg mb} : IsT (c1 w p loose mean mg mb) (.kref 81) [.int 40960, .str (Str.ofString "l")] := by
  refine' is_kref ?hk ?hr
  case hk => (show (Mine.kk.heap_1 w.params).lookup 81 = _); k_dflt k_is
  case hr => exact fun β => .of2 (.int _ _) (.str _ _)
theorem pair_82 {w p loose mean mg mb} : IsT (c1 w p loose mean mg mb) (.kref 82) [.int 49152, .str (Str.ofString "s")] := by
  refine' is_kref ?hk ?hr
  case hk => (show (Mine.kk.heap_1 w.params).lookup 82 = _); k_dflt k_is
  case hr => exact fun β => .of2 (.int _ _) (.str _ _)
theorem pair_83 {w p loose mean mg mb} : IsT (c1 w p loose mean mg mb) (.kref 83) [.int 32768, .str (Str.ofString "-")] := by
  refine' is_kref ?hk ?hr
  case hk => (show (Mine.kk.heap_1 w.params).lookup 83 = _); k_dflt k_is
  case hr => exact fun β => .of2 (.int _ _) (.str _ _)
theorem pair_84 {w p loose mean mg mb} : IsT (c1 w p loose mean mg mb) (.kref 84) [.int 24576, .str (Str.ofString "b")] := by
  refine' is_kref ?hk ?hr
  case hk => (show (Mine.kk.heap_1 w.params).lookup 84 = _); k_dflt k_is
  case hr => exact fun β => .of2 (.int _ _) (.str _ _)
theorem pair_85 {w p loose mean mg mb} : IsT (c1 w p loose mean mg mb) (.kref 85) [.int 16384, .str (Str.ofString "d")] := by
  refine' is_kref ?hk ?hr
  case hk => (show (Mine.kk.heap_1 w.params).lookup 85 = _); k_dflt k_is
  case hr => exact fun β => .of2 (.int _ _) (.str _ _)
theorem pair_86 {w p loose mean mg mb} : IsT (c1 w p loose mean mg mb) (.kref 86) [.int 8192, .str (Str.ofString "c")] := by
  refine' is_kref ?hk ?hr
  case hk => (show (Mine.kk.heap_1 w.params).lookup 86 = _); k_dflt k_is
  case hr => exact fun β => .of2 (.int _ _) (.str _ _)
theorem pair_87 {w p loose mean mg mb} : IsT (c1 w p loose mean mg mb) (.kref 87) [.int 4096, .str (Str.ofString "p")] := by
  refine' is_kref ?hk ?hr
  case hk => (show (Mine.kk.heap_1 w.params).lookup 87 = _); k_dflt k_is
  case hr => exact fun β => .of2 (.int _ _) (.str _ _)
theorem tab_0 {w p loose mean mg mb} : TabOk (c1 w p loose mean mg mb) 88 [81, 82, 83, 84, 85, 86, 87] [(40960, Str.ofString "l"), (49152, Str.ofString "s"), (32768, Str.ofString "-"), (24576, Str.ofString "b"), (16384, Str.ofString "d"), (8192, Str.ofString "c"), (4096, Str.ofString "p")] := by
  refine' TabOk.mk ?hk ?hr rfl ?hp
  case hk => (show (Mine.kk.heap_1 w.params).lookup 88 = _); k_dflt k_is
  case hr => exact fun β => (.cons (.kref _) (.cons (.kref _) (.cons (.kref _) (.cons (.kref _) (.cons (.kref _) (.cons (.kref _) (.cons (.kref _) .nil)))))))
  case hp => exact (tab_cons pair_81 (tab_cons pair_82 (tab_cons pair_83 (tab_cons pair_84 (tab_cons pair_85 (tab_cons pair_86 (tab_cons pair_87 tab_nil)))))))
theorem pair_89 {w p loose mean mg mb} : IsT (c1 w p loose mean mg mb) (.kref 89) [.int 256, .str (Str.ofString "r")] := by
  refine' is_kref ?hk ?hr
  case hk => (show (Mine.kk.heap_1 w.params).lookup 89 = _); k_dflt k_is
  case hr => exact fun β => .of2 (.int _ _) (.str _ _)
theorem tab_1 {w p loose mean mg mb} : TabOk (c1 w p loose mean mg mb) 90 [89] [(256, Str.ofString "r")] := by
  refine' TabOk.mk ?hk ?hr rfl ?hp
  case hk => (show (Mine.kk.heap_1 w.params).lookup 90 = _); k_dflt k_is
  case hr => exact fun β => (.cons (.kref _) .nil)
  case hp => exact (tab_cons pair_89 tab_nil)
theorem pair_91 {w p loose mean mg mb} : IsT (c1 w p loose mean mg mb) (.kref 91) [.int 128, .str (Str.ofString "w")] := by
  refine' is_kref ?hk ?hr
  case hk => (show (Mine.kk.heap_1 w.params).lookup 91 = _); k_dflt k_is
  case hr => exact fun β => .of2 (.int _ _) (.str _ _)
theorem tab_2 {w p loose mean mg mb} : TabOk (c1 w p loose mean mg mb) 92 [91] [(128, Str.ofString "w")] := by
  refine' TabOk.mk ?hk ?hr rfl ?hp
  case hk => (show (Mine.kk.heap_1 w.params).lookup 92 = _); k_dflt k_is
  case hr => exact fun β => (.cons (.kref _) .nil)
  case hp => exact (tab_cons pair_91 tab_nil)
theorem pair_93 {w p loose mean mg mb} : IsT (c1 w p loose mean mg mb) (.kref 93) [.int 2112, .str (Str.ofString "s")] := by
  refine' is_kref ?hk ?hr
  case hk => (show (Mine.kk.heap_1 w.params).lookup 93 = _); k_dflt k_is
  case hr => exact fun β => .of2 (.int _ _) (.str _ _)
theorem pair_94 {w p loose mean mg mb} : IsT (c1 w p loose mean mg mb) (.kref 94) [.int 2048, .str (Str.ofString "S")] := by
  refine' is_kref ?hk ?hr
  case hk => (show (Mine.kk.heap_1 w.params).lookup 94 = _); k_dflt k_is
  case hr => exact fun β => .of2 (.int _ _) (.str _ _)
theorem pair_95 {w p loose mean mg mb} : IsT (c1 w p loose mean mg mb) (.kref 95) [.int 64, .str (Str.ofString "x")] := by
  refine' is_kref ?hk ?hr
  case hk => (show (Mine.kk.heap_1 w.params).lookup 95 = _); k_dflt k_is
  case hr => exact fun β => .of2 (.int _ _) (.str _ _)
theorem tab_3 {w p loose mean mg mb} : TabOk (c1 w p loose mean mg mb) 96 [93, 94, 95] [(2112, Str.ofString "s"), (2048, Str.ofString "S"), (64, Str.ofString "x")] := by
  refine' TabOk.mk ?hk ?hr rfl ?hp
  case hk => (show (Mine.kk.heap_1 w.params).lookup 96 = _); k_dflt k_is
  case hr => exact fun β => (.cons (.kref _) (.cons (.kref _) (.cons (.kref _) .nil)))
  case hp => exact (tab_cons pair_93 (tab_cons pair_94 (tab_cons pair_95 tab_nil)))
theorem pair_97 {w p loose mean mg mb} : IsT (c1 w p loose mean mg mb) (.kref 97) [.int 32, .str (Str.ofString "r")] := by
  refine' is_kref ?hk ?hr
  case hk => (show (Mine.kk.heap_1 w.params).lookup 97 = _); k_dflt k_is
  case hr => exact fun β => .of2 (.int _ _) (.str _ _)
theorem tab_4 {w p loose mean mg mb} : TabOk (c1 w p loose mean mg mb) 98 [97] [(32, Str.ofString "r")] := by
  refine' TabOk.mk ?hk ?hr rfl ?hp
  case hk => (show (Mine.kk.heap_1 w.params).lookup 98 = _); k_dflt k_is
  case hr => exact fun β => (.cons (.kref _) .nil)
  case hp => exact (tab_cons pair_97 tab_nil)
theorem pair_99 {w p loose mean mg mb} : IsT (c1 w p loose mean mg mb) (.kref 99) [.int 16, .str (Str.ofString "w")] := by
  refine' is_kref ?hk ?hr
  case hk => (show (Mine.kk.heap_1 w.params).lookup 99 = _); k_dflt k_is
  case hr => exact fun β => .of2 (.int _ _) (.str _ _)
theorem tab_5 {w p loose mean mg mb} : TabOk (c1 w p loose mean mg mb) 100 [99] [(16, Str.ofString "w")] := by
  refine' TabOk.mk ?hk ?hr rfl ?hp
  case hk => (show (Mine.kk.heap_1 w.params).lookup 100 = _); k_dflt k_is
  case hr => exact fun β => (.cons (.kref _) .nil)
  case hp => exact (tab_cons pair_99 tab_nil)
theorem pair_101 {w p loose mean mg mb} : IsT (c1 w p loose mean mg mb) (.kref 101) [.int 1032, .str (Str.ofString "s")] := by
  refine' is_kref ?hk ?hr
  case hk => (show (Mine.kk.heap_1 w.params).lookup 101 = _); k_dflt k_is
  case hr => exact fun β => .of2 (.int _ _) (.str _ _)
theorem pair_102 {w p loose mean mg mb} : IsT (c1 w p loose mean mg mb) (.kref 102) [.int 1024, .str (Str.ofString "S")] := by
  refine' is_kref ?hk ?hr
  case hk => (show (Mine.kk.heap_1 w.params).lookup 102 = _); k_dflt k_is
  case hr => exact fun β => .of2 (.int _ _) (.str _ _)
theorem pair_103 {w p loose mean mg mb} : IsT (c1 w p loose mean mg mb) (.kref 103) [.int 8, .str (Str.ofString "x")] := by
  refine' is_kref ?hk ?hr
  case hk => (show (Mine.kk.heap_1 w.params).lookup 103 = _); k_dflt k_is
  case hr => exact fun β => .of2 (.int _ _) (.str _ _)
theorem tab_6 {w p loose mean mg mb} : TabOk (c1 w p loose mean mg mb) 104 [101, 102, 103] [(1032, Str.ofString "s"), (1024, Str.ofString "S"), (8, Str.ofString "x")] := by
  refine' TabOk.mk ?hk ?hr rfl ?hp
  case hk => (show (Mine.kk.heap_1 w.params).lookup 104 = _); k_dflt k_is
  case hr => exact fun β => (.cons (.kref _) (.cons (.kref _) (.cons (.kref _) .nil)))
  case hp => exact (tab_cons pair_101 (tab_cons pair_102 (tab_cons pair_103 tab_nil)))
theorem pair_105 {w p loose mean mg mb} : IsT (c1 w p loose mean mg mb) (.kref 105) [.int 4, .str (Str.ofString "r")] := by
  refine' is_kref ?hk ?hr
  case hk => (show (Mine.kk.heap_1 w.params).lookup 105 = _); k_dflt k_is
  case hr => exact fun β => .of2 (.int _ _) (.str _ _)
theorem tab_7 {w p loose mean mg mb} : TabOk (c1 w p loose mean mg mb) 106 [105] [(4, Str.ofString "r")] := by
  refine' TabOk.mk ?hk ?hr rfl ?hp
  case hk => (show (Mine.kk.heap_1 w.params).lookup 106 = _); k_dflt k_is
  case hr => exact fun β => (.cons (.kref _) .nil)
  case hp => exact (tab_cons pair_105 tab_nil)
theorem pair_107 {w p loose mean mg mb} : IsT (c1 w p loose mean mg mb) (.kref 107) [.int 2, .str (Str.ofString "w")] := by
  refine' is_kref ?hk ?hr
  case hk => (show (Mine.kk.heap_1 w.params).lookup 107 = _); k_dflt k_is
  case hr => exact fun β => .of2 (.int _ _) (.str _ _)
theorem tab_8 {w p loose mean mg mb} : TabOk (c1 w p loose mean mg mb) 108 [107] [(2, Str.ofString "w")] := by
  refine' TabOk.mk ?hk ?hr rfl ?hp
  case hk => (show (Mine.kk.heap_1 w.params).lookup 108 = _); k_dflt k_is
  case hr => exact fun β => (.cons (.kref _) .nil)
  case hp => exact (tab_cons pair_107 tab_nil)
theorem pair_109 {w p loose mean mg mb} : IsT (c1 w p loose mean mg mb) (.kref 109) [.int 513, .str (Str.ofString "t")] := by
  refine' is_kref ?hk ?hr
  case hk => (show (Mine.kk.heap_1 w.params).lookup 109 = _); k_dflt k_is
  case hr => exact fun β => .of2 (.int _ _) (.str _ _)
theorem pair_110 {w p loose mean mg mb} : IsT (c1 w p loose mean mg mb) (.kref 110) [.int 512, .str (Str.ofString "T")] := by
  refine' is_kref ?hk ?hr
  case hk => (show (Mine.kk.heap_1 w.params).lookup 110 = _); k_dflt k_is
  case hr => exact fun β => .of2 (.int _ _) (.str _ _)
theorem pair_111 {w p loose mean mg mb} : IsT (c1 w p loose mean mg mb) (.kref 111) [.int 1, .str (Str.ofString "x")] := by
  refine' is_kref ?hk ?hr
  case hk => (show (Mine.kk.heap_1 w.params).lookup 111 = _); k_dflt k_is
  case hr => exact fun β => .of2 (.int _ _) (.str _ _)
theorem tab_9 {w p loose mean mg mb} : TabOk (c1 w p loose mean mg mb) 112 [109, 110, 111] [(513, Str.ofString "t"), (512, Str.ofString "T"), (1, Str.ofString "x")] := by
  refine' TabOk.mk ?hk ?hr rfl ?hp
  case hk => (show (Mine.kk.heap_1 w.params).lookup 112 = _); k_dflt k_is
  case hr => exact fun β => (.cons (.kref _) (.cons (.kref _) (.cons (.kref _) .nil)))
  case hp => exact (tab_cons pair_109 (tab_cons pair_110 (tab_cons pair_111 tab_nil)))
theorem tab_at {w p loose mean mg mb} (i : Nat) (d : Dat) (h : (([.kref 88, .kref 90, .kref 92, .kref 96, .kref 98, .kref 100, .kref 104, .kref 106, .kref 108, .kref 112] : List Dat).zipIdx.map fun q => Dat.tup [.int q.2, q.1])[i]? = some d) : ∃ T as tb, d = .tup [.int i, .kref T] ∧ fmTabs[i]? = some tb ∧ TabOk (c1 w p loose mean mg mb) T as tb := by
  match i, h with
  | 0, h => cases h; exact ⟨88, _, _, rfl, rfl, tab_0⟩
  | 1, h => cases h; exact ⟨90, _, _, rfl, rfl, tab_1⟩
  | 2, h => cases h; exact ⟨92, _, _, rfl, rfl, tab_2⟩
  | 3, h => cases h; exact ⟨96, _, _, rfl, rfl, tab_3⟩
  | 4, h => cases h; exact ⟨98, _, _, rfl, rfl, tab_4⟩
  | 5, h => cases h; exact ⟨100, _, _, rfl, rfl, tab_5⟩
  | 6, h => cases h; exact ⟨104, _, _, rfl, rfl, tab_6⟩
  | 7, h => cases h; exact ⟨106, _, _, rfl, rfl, tab_7⟩
  | 8, h => cases h; exact ⟨108, _, _, rfl, rfl, tab_8⟩
  | 9, h => cases h; exact ⟨112, _, _, rfl, rfl, tab_9⟩
  | i + 10, h => exact absurd h (by rw [List.getElem?_eq_none (by simp)]; exact fun e => nomatch e)
theorem f_filemode {w p loose mean mg mb} {k : Nat} {m : Int} : FS (c1 w p loose mean mg mb) (k + 2) (.ref 120) [.int m] (.str (fm m)) := by
  refine' fs_intro (ps := [Str.ofString "mode"]) ?ho ?hcd ?hb ?hl ?hps ?hk ?hnd ?h1 ?h2 ?h3 ?_
  case ho => (show (Mine.kk.heap_1 w.params).lookup 120 = _); k_dflt k_is
  case hcd => (show codeIn (Mine.kk.heap_1 w.params) _ _ = true); k_dflt k_is
  case hb => intro s vs h; match vs, h with | [a0], _ => exact BindsTo.of_eq rfl
  case hl => rfl
  case h1 => rfl
  case h2 => rfl
  case h3 => rfl
  case hps => decide
  case hk => decide +kernel
  case hnd => decide +kernel
  intro L A β₀ h₀ s₀ Q hQ
  refine x_own (ds := []) (ef_list .nil (by decide) (fun d hd => nomatch hd)) rfl rfl (.inl rfl) ?_
  refine x_for (ds := (([.kref 88, .kref 90, .kref 92, .kref 96, .kref 98, .kref 100, .kref 104, .kref 106, .kref 108, .kref 112] : List Dat).zipIdx.map fun q => Dat.tup [.int q.2, q.1])) (fun _ => [(Str.ofString "mode", .int m)]) (fun i => [(Str.ofString "perm", .lst (((fmChars m).take i).map .str))]) [(Str.ofString "mode", .int m)] [(Str.ofString "perm", .lst ((fmChars m).map .str))] ?ei (fun _ _ h => h) rfl ?turn ?done ?rest
  case ei =>
    refine' ei_enum_kref (by refine' GN.typ ?ga1 rfl (by decide) rfl; (show nsIn (Mine.kk.heap_1 w.params) mainGlobals _ = _); k_dflt k_is) (ev_gname (v := .ref 113) ?e rfl fun β => .kref _) rfl ?hk (ds := [.kref 88, .kref 90, .kref 92, .kref 96, .kref 98, .kref 100, .kref 104, .kref 106, .kref 108, .kref 112]) ?hr
    case e => (show nsIn (Mine.kk.heap_1 w.params) mainGlobals _ = _); k_dflt k_is
    case hk => (show (Mine.kk.heap_1 w.params).lookup 113 = _); k_dflt k_is
    case hr => exact fun β => (.cons (.kref _) (.cons (.kref _) (.cons (.kref _) (.cons (.kref _) (.cons (.kref _) (.cons (.kref _) (.cons (.kref _) (.cons (.kref _) (.cons (.kref _) (.cons (.kref _) .nil))))))))))
  case turn =>
    intro i d hd
    obtain ⟨T, as, tb, rfl, htb, ⟨vs, n, hT, hR⟩, hlen, hp⟩ := tab_at (w := w) (p := p) (loose := loose) (mean := mean) (mg := mg) (mb := mb) i d hd
    have hstep : (fmChars m).take (i + 1) = (fmChars m).take i ++ [fmPick i m tb] := by
      have hi : (fmChars m)[i]? = some (fmPick i m tb) := by
        unfold fmChars; rw [List.getElem?_map, List.getElem?_zipIdx, htb]; simp
      rw [List.take_add_one, hi]; rfl
    have hl10 : ((((fmChars m).take i).map Dat.str)).length ≤ 10000 := by rw [List.length_map, List.length_take, fmChars_len]; omega
    refine ⟨[(Str.ofString "table", .kref T), (Str.ofString "index", .int i), (Str.ofString "mode", .int m)], as_tuple is_tup (.cons (as_name rfl (.inl rfl)) rfl (.cons (as_name rfl (.inl rfl)) rfl .nil)), fun β₁ η' => ?_⟩
    refine x_for_to (ds := as.map Dat.kref) (tb.findIdx (fmHit i m)) (fun _ => [(Str.ofString "table", .kref T), (Str.ofString "index", .int i), (Str.ofString "mode", .int m)]) (fun _ => [(Str.ofString "perm", .lst (((fmChars m).take i).map .str))]) [(Str.ofString "mode", .int m)] [(Str.ofString "perm", .lst (((fmChars m).take (i + 1)).map .str))] (ei_kref (ev_name rfl) hT hR) (fun _ _ h => h) rfl ?turn2 ?done2 ?rest2
    case turn2 =>
      intro j d' hd' hj
      rw [List.getElem?_map, Option.map_eq_some_iff] at hd'
      obtain ⟨a, ha, rfl⟩ := hd'
      have hjl : j < tb.length := by rw [← hlen]; exact (List.getElem?_eq_some_iff.mp ha).1
      have hpj := hp j a tb[j] ha (List.getElem?_eq_getElem hjl)
      refine ⟨(Str.ofString "char", .str tb[j].2) :: (Str.ofString "bit", .int tb[j].1) :: [(Str.ofString "table", .kref T), (Str.ofString "index", .int i), (Str.ofString "mode", .int m)], as_tuple hpj (.cons (as_name rfl (.inl rfl)) rfl (.cons (as_name rfl (.inl rfl)) rfl .nil)), fun β₂ η'' => ?_⟩
      have hitE : fmHit i m tb[j] = true → j = tb.findIdx (fmHit i m) := fun h => by
        rcases Nat.lt_or_ge j (tb.findIdx (fmHit i m)) with q | q
        · have := List.not_of_lt_findIdx q; rw [h] at this; cases this
        · omega
      have hpick : fmHit i m tb[j] = true → fmPick i m tb = tb[j].2 := fun h => by
        have e := hitE h
        unfold fmPick
        have : tb.find? (fmHit i m) = some tb[j] := by
          rw [List.find?_eq_some_iff_getElem]
          refine ⟨h, j, hjl, rfl, fun l hl => ?_⟩
          have := List.not_of_lt_findIdx (p := fmHit i m) (xs := tb) (i := l) (by omega)
          simpa using this
        rw [this]
      have hmiss : fmHit i m tb[j] = false → j < tb.findIdx (fmHit i m) := fun h => by
        rcases Nat.lt_or_ge j (tb.findIdx (fmHit i m)) with q | q
        · exact q
        · have e : j = tb.findIdx (fmHit i m) := by omega
          have := List.findIdx_getElem (p := fmHit i m) (xs := tb) (w := by omega)
          simp only [← e] at this
          rw [h] at this; cases this
      refine x_if (et_cmp (ev_name rfl) ev_int co_eq) (fun hb => ?_) (fun hb => ?_)
      · have hi0 : i = 0 := by simpa using hb
        refine x_if (et_cmp (ev_call ?g (.cons (ev_name rfl) rfl .nil) f_ifmt) (ev_name rfl) co_eq) (fun h2 => ?_) (fun h2 => ?_)
        case g => refine' GN.own ?ga2 ?gb2 ?gc2 ?gd2; (case ga2 => (show nsIn (Mine.kk.heap_1 w.params) mainGlobals _ = _); k_dflt k_is); (case gb2 => (show (Mine.kk.heap_1 w.params).lookup 80 = _); k_dflt k_is); (case gc2 => rfl); (case gd2 => rfl)
        · have hh : fmHit i m tb[j] = true := by unfold fmHit; rw [if_pos hi0]; exact h2
          refine x_append (i := 0) rfl (ev_name rfl) trivial hl10 rfl rfl rfl rfl ?_
          refine x_break fun s' S => ?_
          have e : ((fmChars m).take (i + 1)).map Dat.str = ((fmChars m).take i).map Dat.str ++ [.str tb[j].2] := by rw [hstep, hpick hh, List.map_append]; rfl
          rw [e]
          exact S.forget ⟨rfl, trivial⟩
        · have hh : fmHit i m tb[j] = false := by unfold fmHit; rw [if_pos hi0]; exact h2
          exact x_seq (x_seq (x_nil fun s' S => ⟨hmiss hh, S.forget ⟨rfl, rfl, rfl, trivial⟩⟩))
      · have hi0 : i ≠ 0 := by simpa using hb
        refine x_if (et_cmp (ev_and (ev_name rfl) (ev_name rfl)) (ev_name rfl) co_eq) (fun h2 => ?_) (fun h2 => ?_)
        · have hh : fmHit i m tb[j] = true := by unfold fmHit; rw [if_neg hi0]; exact h2
          refine x_append (i := 0) rfl (ev_name rfl) trivial hl10 rfl rfl rfl rfl ?_
          refine x_break fun s' S => ?_
          have e : ((fmChars m).take (i + 1)).map Dat.str = ((fmChars m).take i).map Dat.str ++ [.str tb[j].2] := by rw [hstep, hpick hh, List.map_append]; rfl
          rw [e]
          exact S.forget ⟨rfl, trivial⟩
        · have hh : fmHit i m tb[j] = false := by unfold fmHit; rw [if_neg hi0]; exact h2
          exact x_seq (x_seq (x_nil fun s' S => ⟨hmiss hh, S.forget ⟨rfl, rfl, rfl, trivial⟩⟩))
    case done2 =>
      intro hle
      rw [List.length_map, hlen] at hle
      have hnone : tb.find? (fmHit i m) = none := by
        rw [List.find?_eq_none]
        intro q hq
        obtain ⟨l, hl, rfl⟩ := List.getElem_of_mem hq
        simpa using List.not_of_lt_findIdx (p := fmHit i m) (xs := tb) (i := l) (by omega)
      have hpick : fmPick i m tb = if i = 0 then Str.ofString "?" else Str.ofString "-" := by unfold fmPick; rw [hnone]
      have fin : ∀ env' ch, fmPick i m tb = ch → ∀ s', St (c1 w p loose mean mg mb) env' β₁ h₀ [(Str.ofString "table", .kref T), (Str.ofString "index", .int i), (Str.ofString "mode", .int m)] [(Str.ofString "perm", .lst (((fmChars m).take i).map Dat.str ++ [.str ch]))] η' s₀ s' → St (c1 w p loose mean mg mb) env' β₁ h₀ [(Str.ofString "mode", .int m)] [(Str.ofString "perm", .lst (((fmChars m).take (i + 1)).map Dat.str))] η' s₀ s' := fun env' ch hc s' S => by
        rw [hstep, hc, List.map_append]; exact S.forget ⟨rfl, trivial⟩
      refine x_if (et_cmp (ev_name rfl) ev_int co_eq) (fun hb => ?_) (fun hb => ?_)
      · have hi0 : i = 0 := by simpa using hb
        refine x_append (i := 0) rfl ev_str trivial hl10 rfl rfl rfl rfl ?_
        exact x_seq (x_nil fun s' S => fin _ _ (by rw [hpick, if_pos hi0]) s' S)
      · have hi0 : i ≠ 0 := by simpa using hb
        refine x_append (i := 0) rfl ev_str trivial hl10 rfl rfl rfl rfl ?_
        exact x_seq (x_nil fun s' S => fin _ _ (by rw [hpick, if_neg hi0]) s' S)
    case rest2 => exact x_nil fun s' S => S
  case done => exact x_nil fun s' S => S
  case rest =>
    refine x_return (ev_meth ev_str (.cons (ev_name rfl) rfl .nil) (mc_join (ys := fmChars m) ?_)) hQ
    exact fm_join m

theorem f_names {w p loose mean mg mb} : IsD (c1 w p loose mean mg mb) (intKind (c1 w p loose mean mg mb).prog (c1 w p loose mean mg mb).w) (.kref 52) (cfn.map fun q => (q.1, Dat.str q.2)) := by
  refine' is_kdI ?hk ?h (by decide) (by decide)
  case hk => (show (Mine.kk.heap_1 w.params).lookup 52 = _); k_dflt k_is
  case h => exact (.cons rfl (fun _ => .str _ _) (.cons rfl (fun _ => .str _ _) (.cons rfl (fun _ => .str _ _) (.cons rfl (fun _ => .str _ _) (.cons rfl (fun _ => .str _ _) (.cons rfl (fun _ => .str _ _) (.cons rfl (fun _ => .str _ _) (.cons rfl (fun _ => .str _ _) (.cons rfl (fun _ => .str _ _) (.cons rfl (fun _ => .str _ _) .nil))))))))))
theorem cfn_get (i : Nat) : ((cfn.map fun q => (q.1, Dat.str q.2)).lookup ((2 ^ i : Nat) : Int)).getD (.str (baseText "0x" 16 ((2 ^ i : Nat) : Int))) = .str (flagNm i) := by
  unfold flagNm
  have : ∀ (l : List (Int × Str)) (x : Int), (l.map fun q => (q.1, Dat.str q.2)).lookup x = (l.lookup x).map Dat.str := by
    intro l x
    induction l with
    | nil => rfl
    | cons q l ih => rw [List.map_cons, List.lookup_cons, show q = (q.1, q.2) from rfl, List.lookup_cons]; cases x == q.1 <;> simp [ih]
  rw [this]
  cases cfn.lookup ((2 ^ i : Nat) : Int) <;> rfl
theorem f_pretty {w p loose mean mg mb} {k : Nat} {f : Nat} (hf : f < 65536) : FS (c1 w p loose mean mg mb) (k + 1) (.ref 59) [.int f] (.str (pf f)) := by
  refine' fs_intro (ps := [Str.ofString "flags"]) ?ho ?hcd ?hb ?hl ?hps ?hk ?hnd ?h1 ?h2 ?h3 ?_
  case ho => (show (Mine.kk.heap_1 w.params).lookup 59 = _); k_dflt k_is
  case hcd => (show codeIn (Mine.kk.heap_1 w.params) _ _ = true); k_dflt k_is
  case hb => intro s vs h; match vs, h with | [a0], _ => exact BindsTo.of_eq rfl
  case hl => rfl
  case h1 => rfl
  case h2 => rfl
  case h3 => rfl
  case hps => decide
  case hk => decide +kernel
  case hnd => decide +kernel
  intro L A β₀ h₀ s₀ Q hQ
  refine x_own (ds := []) (ef_list .nil (by decide) (fun d hd => nomatch hd)) rfl rfl (.inl rfl) ?_
  refine x_for_to (ds := (List.range 32).map fun (i : Nat) => Dat.int (0 + (i : Int) * 1)) (if f = 0 then 32 else f.log2) (fun i => [(Str.ofString "flags", .int (rem f i))]) (fun i => [(Str.ofString "names", .lst ((nmsTo f i).map .str))]) [] [(Str.ofString "names", .lst ((pfl f).map .str))] ?ei (fun x d h => by rw [rem_zero] at h; exact h) rfl ?turn ?done ?rest
  case ei =>
    refine ei_range (ev_call ?g (.cons ev_int rfl .nil) fs_range1) (by decide) (by decide)
    case g => refine' GN.typ ?ga3 rfl (by decide) rfl; (show nsIn (Mine.kk.heap_1 w.params) mainGlobals _ = _); k_dflt k_is
  case turn =>
    intro i d hd hm
    have hi : i < 32 := by have := (List.getElem?_eq_some_iff.mp hd).1; simpa using this
    have hd' : d = Dat.int (0 + (i : Int) * 1) := by
      rw [List.getElem?_map, List.getElem?_range hi] at hd; cases hd; rfl
    subst hd'
    refine ⟨_, as_name rfl (.inl rfl), fun β₁ η' => ?_⟩
    have hfl : (1 : Int) * 2 ^ ((0 + (i : Int) * 1).toNat) = ((2 ^ i : Nat) : Int) := by
      rw [Int.one_mul, show (0 + (i : Int) * 1).toNat = i by omega]; push_cast; rfl
    have hgt : (((nmsTo f i).map Dat.str)).length ≤ 10000 := by rw [List.length_map]; have := nmsTo_len f i; omega
    refine x_assign (d := .int ((2 ^ i : Nat) : Int)) (by rw [← hfl]; exact ev_shl ev_int (ev_name rfl) (by omega) (by omega) (by decide)) rfl (.inl rfl) ?_
    refine x_if (et_plain (ev_and (ev_name rfl) (ev_name rfl)) tr_int) (fun hb => ?_) (fun hb => ?_)
    · rw [band_nat, rem_and] at hb
      have ht : f.testBit i = true := by
        cases q : f.testBit i with
        | true => rfl
        | false => rw [q] at hb; simp at hb
      refine x_append (i := 0) (d := .str (flagNm i)) rfl ?_ trivial hgt rfl rfl rfl rfl ?_
      · rw [← cfn_get i]
        refine ev_meth (d := .kref 52) (ev_gname (v := .ref 52) ?e rfl fun β => .kref _) (.cons (ev_name rfl) rfl (.cons (ev_call ?g2 (.cons (ev_name rfl) rfl .nil) (fs_hex ?hl)) rfl .nil)) (mc_get f_names key_int)
        case e => (show nsIn (Mine.kk.heap_1 w.params) mainGlobals _ = _); k_dflt k_is
        case g2 => refine' GN.blt ?ga4 rfl (by decide) rfl; (show nsIn (Mine.kk.heap_1 w.params) mainGlobals _ = _); k_dflt k_is
        case hl =>
          have : ∀ i, i < 32 → (baseText "0x" 16 ((2 ^ i : Nat) : Int)).length ≤ 10000 := by decide +kernel
          exact this i hi
      · refine x_ixor (a := (rem f i : Nat)) (b := (2 ^ i : Nat)) rfl (ev_name rfl) rfl (.inl rfl) ?_
        rw [bxor_nat, rem_xor ht]
        refine x_if (et_not (et_plain (ev_name rfl) tr_int)) (fun h2 => ?_) (fun h2 => ?_)
        · have hz : rem f (i + 1) = 0 := by simpa using h2
          have hlt := rem_eq_zero.mp hz
          have hf0 : f ≠ 0 := by rintro rfl; simp at ht
          have e : pfl f = nmsTo f i ++ [flagNm i] := by
            unfold pfl
            rw [if_neg hf0]
            have hi16 : i + 1 ≤ 16 := by
              rcases Nat.lt_or_ge i 16 with q | q
              · exact q
              · have := Nat.testBit_lt_two_pow (Nat.lt_of_lt_of_le hf (show 65536 ≤ 2 ^ i from Nat.pow_le_pow_right (n := 2) (by omega) q)); rw [this] at ht; cases ht
            have := nmsTo_end hlt (16 - (i + 1))
            rw [show i + 1 + (16 - (i + 1)) = 16 by omega] at this
            rw [this, nmsTo_succ, ht]; rfl
          refine x_break fun s' S => ?_
          rw [e, List.map_append]
          exact S.forget trivial
        · have hz : rem f (i + 1) ≠ 0 := by simpa using h2
          have hge : 2 ^ (i + 1) ≤ f := by rcases Nat.lt_or_ge f (2 ^ (i + 1)) with q | q; exact (hz (rem_eq_zero.mpr q)).elim; exact q
          have hf0 : f ≠ 0 := by rintro rfl; simp at ht
          have hlt : i < (if f = 0 then 32 else f.log2) := by
            rw [if_neg hf0]
            exact (Nat.le_log2 hf0).mpr hge
          refine x_seq (x_seq (x_nil fun s' S => ⟨hlt, ?_⟩))
          rw [nmsTo_succ, ht, if_pos rfl, List.map_append]
          exact S.forget ⟨rfl, trivial⟩
    · rw [band_nat, rem_and] at hb
      have ht : f.testBit i = false := by
        cases q : f.testBit i with
        | false => rfl
        | true => rw [q, if_pos rfl] at hb; have h3 := Nat.two_pow_pos i; have h4 : ((2 ^ i : Nat) : Int) = 0 := (by simpa only [bne_eq_false_iff_eq] using hb); exact absurd h4 (by omega)
      have hlt : i < (if f = 0 then 32 else f.log2) := by
        split
        · exact hi
        · rename_i hf0
          rw [if_neg hf0] at hm
          rcases Nat.lt_or_ge i f.log2 with q | q
          · exact q
          · have e : i = f.log2 := by omega
            rw [e, tab_bit hf0] at ht; cases ht
      refine x_seq (x_nil fun s' S => ⟨hlt, ?_⟩)
      rw [nmsTo_succ, ht, rem_no ht]
      exact S.forget ⟨rfl, trivial⟩
  case done =>
    intro hle
    have hf0 : f = 0 := by
      rcases Nat.eq_zero_or_pos f with q | q
      · exact q
      · rw [if_neg (by omega)] at hle
        have h2 : (32 : Nat) ≤ f.log2 := by simpa using hle
        have := (Nat.le_log2 (by omega)).mp h2
        omega
    subst hf0
    refine x_append (i := 0) (d := .str "0x0") rfl (ev_call ?g3 (.cons (ev_name rfl) rfl .nil) (fs_hex ?hl3)) trivial (by decide) rfl rfl rfl rfl ?_
    case g3 => refine' GN.blt ?ga5 rfl (by decide) rfl; (show nsIn (Mine.kk.heap_1 w.params) mainGlobals _ = _); k_dflt k_is
    case hl3 => decide
    exact x_nil fun s' S => S.forget trivial
  case rest =>
    refine x_return (ev_meth ev_str (.cons (ev_name rfl) rfl .nil) (mc_join (ys := pfl f) (pf_join hf))) hQ
end Mine


open PySem PySem.W PySem.W.X PyProof.Rows PySem.Calls PySem.Spec
set_option Elab.async false
namespace Mine
set_option maxRecDepth 100000
set_option maxHeartbeats 1000000
set_option linter.unusedVariables false
set_option pp.deepTerms false
set_option pp.maxSteps 1500
theorem warmb : ∀ w : World, (Mine.kk.heap_1 w.params, PySem.Challenge.rw_om0024_02.prog) = (Mine.kk.heap_1 w.params, PySem.Challenge.rw_om0024_02.prog) := by
  k_fill
  intro w; rfl

theorem f_buffer {w p loose mean mg mb} {k : Nat} {b : Array UInt8} : FS (c1 w p loose mean mg mb) (k + 1) (.ref 28) [.byt b] (.byt b) := by
  refine' fs_intro (ps := [Str.ofString "data"]) ?ho ?hcd ?hb ?hl ?hps ?hk ?hnd ?h1 ?h2 ?h3 ?_
  case ho => (show (Mine.kk.heap_1 w.params).lookup 28 = _); k_dflt k_is
  case hcd => (show codeIn (Mine.kk.heap_1 w.params) _ _ = true); k_dflt k_is
  case hb => intro s vs h; match vs, h with | [a0], _ => exact BindsTo.of_eq rfl
  case hl => rfl
  case h1 => rfl
  case h2 => rfl
  case h3 => rfl
  case hps => decide
  case hk => decide +kernel
  case hnd => decide +kernel
  intro L A β₀ h₀ s₀ Q hQ
  refine x_assign (d := .typ "bytes") (ev_call ?g (.cons (ev_name rfl) rfl .nil) fs_type_bytes) rfl (.inl rfl) ?_
  case g => refine' GN.typ ?ga6 rfl (by decide) rfl; (show nsIn (Mine.kk.heap_1 w.params) mainGlobals _ = _); k_dflt k_is
  refine x_if (et_cmp (ev_name rfl) (ev_typ (T := "bytes") ?e rfl (by decide) rfl) co_is_typ) (fun _ => ?_) (fun h => absurd h (by decide))
  case e => (show nsIn (Mine.kk.heap_1 w.params) mainGlobals _ = _); k_dflt k_is
  exact x_return (ev_name rfl) hQ
theorem f_truth {w p loose mean mg mb} {k : Nat} : FS (c1 w p loose mean mg mb) (k + 1) (.ref 35) [.bool false] (.bool false) := by
  refine' fs_intro (ps := [Str.ofString "x"]) ?ho ?hcd ?hb ?hl ?hps ?hk ?hnd ?h1 ?h2 ?h3 ?_
  case ho => (show (Mine.kk.heap_1 w.params).lookup 35 = _); k_dflt k_is
  case hcd => (show codeIn (Mine.kk.heap_1 w.params) _ _ = true); k_dflt k_is
  case hb => intro s vs h; match vs, h with | [a0], _ => exact BindsTo.of_eq rfl
  case hl => rfl
  case h1 => rfl
  case h2 => rfl
  case h3 => rfl
  case hps => decide
  case hk => decide +kernel
  case hnd => decide +kernel
  intro L A β₀ h₀ s₀ Q hQ
  refine x_assign (d := .typ "bool") (ev_call ?g (.cons (ev_name rfl) rfl .nil) fs_type_bool) rfl (.inl rfl) ?_
  case g => refine' GN.typ ?ga7 rfl (by decide) rfl; (show nsIn (Mine.kk.heap_1 w.params) mainGlobals _ = _); k_dflt k_is
  refine x_if (et_or (b := false) (b' := true) (et_cmp (ev_name rfl) ev_none co_is_none) fun _ => et_or (b := true) (b' := false) (et_cmp (ev_name rfl) (ev_typ (T := "bool") ?e rfl (by decide) rfl) co_is_typ) fun h => nomatch h) (fun _ => ?_) (fun h => nomatch h)
  case e => (show nsIn (Mine.kk.heap_1 w.params) mainGlobals _ = _); k_dflt k_is
  exact x_return (ev_ifexp (b := false) (et_plain (ev_name rfl) tr_bool) (fun h => nomatch h) fun _ => ev_bool) hQ
theorem b64_d {w : World} : (Mine.kk.heap_1 w.params).lookup 44 = some (tupO [.none] 0) := by k_dflt k_is

theorem f_b2a {w p loose mean mg mb} {k : Nat} {b : Array UInt8} (hsz : b.size ≤ 1000) : FK (c1 w p loose mean mg mb) (k + 2) (.ref 43) [.byt b] [(Str.ofString "newline", .bool false)] (.byt (bytesOf (b64 (octs b)))) := by
  refine' fs_introK (ps := [Str.ofString "data", Str.ofString "newline"]) (kw := [(Str.ofString "newline", .bool false)]) (xs := [.bool false]) (xd := [.bool false]) ?ho ?hcd ?hxr ?hb ?hl ?hps ?hk ?hnd ?h1 ?h2 ?h3 ?_
  case ho => (show (Mine.kk.heap_1 w.params).lookup 43 = _); k_dflt k_is
  case hcd => (show codeIn (Mine.kk.heap_1 w.params) _ _ = true); k_dflt k_is
  case hxr => intro β; exact .cons (by first | exact .none | exact .bool _) .nil
  case hb => intro s vs hB h; match vs, h with | [a0], _ => exact BindsTo.of_eq rfl
  case hl => rfl
  case h1 => rfl
  case h2 => rfl
  case h3 => rfl
  case hps => decide
  case hk => decide +kernel
  case hnd => decide +kernel
  intro L A β₀ h₀ s₀ Q hQ
  refine x_assign (d := .byt b) (ev_call ?g1 (.cons (ev_name rfl) rfl .nil) f_buffer) rfl (.inl rfl) ?_
  case g1 => refine' GN.own ?ga8 ?gb8 ?gc8 ?gd8; (case ga8 => (show nsIn (Mine.kk.heap_1 w.params) mainGlobals _ = _); k_dflt k_is); (case gb8 => (show (Mine.kk.heap_1 w.params).lookup 28 = _); k_dflt k_is); (case gc8 => rfl); (case gd8 => rfl)
  refine x_assign (d := .bool false) (ev_call ?g2 (.cons (ev_name rfl) rfl .nil) f_truth) rfl (.inl rfl) ?_
  case g2 => refine' GN.own ?ga9 ?gb9 ?gc9 ?gd9; (case ga9 => (show nsIn (Mine.kk.heap_1 w.params) mainGlobals _ = _); k_dflt k_is); (case gb9 => (show (Mine.kk.heap_1 w.params).lookup 35 = _); k_dflt k_is); (case gc9 => rfl); (case gd9 => rfl)
  refine x_own (ds := []) (ef_list .nil (by decide) (fun d hd => nomatch hd)) rfl rfl (.inl rfl) ?_
  refine x_assign ev_int rfl (.inl rfl) (x_assign ev_int rfl (.inl rfl) ?_)
  have hbl : (octs b).length ≤ 1000 := by unfold octs; rw [List.length_map]; simpa using hsz
  refine x_for (ds := b.toList.map fun x => .int (x.toNat : Int)) (fun i => [(Str.ofString "leftchar", .int ((b6run ((octs b).take i)).lc : Nat)), (Str.ofString "leftbits", .int ((b6run ((octs b).take i)).lb : Nat)), (Str.ofString "newline", .bool false)]) (fun i => [(Str.ofString "out", .lst (nat (b6run ((octs b).take i)).out))])
    [(Str.ofString "leftchar", .int ((b6run (octs b)).lc : Nat)), (Str.ofString "leftbits", .int ((b6run (octs b)).lb : Nat)), (Str.ofString "newline", .bool false)] [(Str.ofString "out", .lst (nat (b6run (octs b)).out))] (ei_bytes (ev_name rfl)) ?h0 rfl ?turn ?done ?rest
  case h0 => exact Fg.at ⟨rfl, rfl, rfl, trivial⟩
  case turn =>
    intro i d hd
    rw [List.getElem?_map, Option.map_eq_some_iff] at hd
    obtain ⟨x, hx, rfl⟩ := hd
    have hbi : (octs b)[i]? = some x.toNat := by unfold octs; rw [List.getElem?_map, hx]; rfl
    have hil : i < (octs b).length := (List.getElem?_eq_some_iff.mp hbi).1
    rw [b6run_succ _ _ _ hbi]
    have hinv := b6_inv ((octs b).take i)
    have hlen := b6_len ((octs b).take i)
    have hlcS := b6_lc ((octs b).take i)
    have hlt : ((octs b).take i).length ≤ 1000 := by rw [List.length_take]; omega
    generalize b6run ((octs b).take i) = S at hinv hlen hlcS
    obtain ⟨e1, e2, e3⟩ := b6turn_eq S x.toNat hinv
    rw [e1, e2, e3]
    have hlc : b6in S.lc x.toNat < 65536 := b6in_lt _ _
    refine ⟨_, as_name rfl (.inl rfl), fun β₁ η' => ?_⟩
    refine x_assign (d := .int (b6in S.lc x.toNat : Nat)) (by rw [← in_eq]; exact ev_and (ev_or (ev_shl (ev_name rfl) ev_int (by decide) (by decide) (by omega)) (ev_name rfl)) ev_int) rfl (.inl rfl) ?_
    refine x_assign (d := .int ((S.lb + 8 : Nat) : Int)) (by rw [show ((S.lb + 8 : Nat) : Int) = (S.lb : Int) + 8 by push_cast; rfl]; exact ev_add (ev_name rfl) ev_int) rfl (.inl rfl) ?_
    refine x_while (b6n S) (fun j => [(Str.ofString "leftbits", .int ((S.lb + 8 - 6 * j : Nat) : Int)), (Str.ofString "leftchar", .int (b6in S.lc x.toNat : Nat)), (Str.ofString "newline", .bool false)]) (fun j => [(Str.ofString "out", .lst (nat (S.out ++ b6sgs S x.toNat j)))]) (Fg.at ⟨rfl, rfl, rfl, trivial⟩) (by simp [b6sgs]) (fun j hj => ?go) ?stop (fun j hj => ?body) ?rest2
    case go =>
      have h6 := b6n_go hinv hj
      have : decide ((6 : Int) ≤ ((S.lb + 8 - 6 * j : Nat) : Int)) = true := by simp; omega
      rw [← this]; exact et_cmp (ev_name rfl) ev_int co_ge
    case stop =>
      have h6 := b6n_stop hinv
      have : decide ((6 : Int) ≤ ((S.lb + 8 - 6 * b6n S : Nat) : Int)) = false := by simp; omega
      rw [← this]; exact et_cmp (ev_name rfl) ev_int co_ge
    case body =>
      have h6 := b6n_go hinv hj
      have hj2 : j < 2 := by unfold b6n at hj; split at hj <;> omega
      refine x_append (i := 0) (d := .int (b6sign (b6in S.lc x.toNat) (S.lb + 8 - 6 * j) : Nat)) rfl ?ev trivial ?ln rfl rfl rfl rfl ?_
      case ev =>
        refine' ev_item (d := .byt alphaL.toArray) (i := .int (b6in S.lc x.toNat / 2 ^ (S.lb + 8 - 6 * j - 6) % 64 : Nat)) (ev_gbytes ?e rfl) (by rw [← sign_eq h6]; exact ev_and (ev_shr (ev_name rfl) (ev_sub (ev_name rfl) ev_int) (by omega)) ev_int) (it_bytes (x := alphaL.getD (b6in S.lc x.toNat / 2 ^ (S.lb + 8 - 6 * j - 6) % 64) 0) (by omega) (by exact alphaL_at (by omega)) (by decide))
        case e => (show nsIn (Mine.kk.heap_1 w.params) mainGlobals _ = _); k_dflt k_is
      case ln => rw [nat_len, List.length_append]; unfold b6sgs; rw [List.length_map, List.length_range]; omega
      have e5 : ((S.lb + 8 - 6 * (j + 1) : Nat) : Int) = ((S.lb + 8 - 6 * j : Nat) : Int) - 6 := by omega
      refine x_assign (d := .int ((S.lb + 8 - 6 * (j + 1) : Nat) : Int)) (by rw [e5]; exact ev_sub (ev_name rfl) ev_int) rfl (.inl rfl) (x_nil fun s' S' => ?_)
      rw [b6sgs_succ, ← List.append_assoc, nat_snoc]
      exact S'.forget ⟨rfl, rfl, rfl, trivial⟩
    case rest2 => exact x_nil fun s' S' => S'.forget ⟨rfl, rfl, rfl, trivial⟩
  case done =>
    refine x_nil fun s' S => ?_
    have e : (octs b).take (b.toList.map fun x => Dat.int (x.toNat : Int)).length = octs b := List.take_of_length_le (by unfold octs; simp)
    rw [e] at S
    exact S
  case rest =>
    have hinv := b6_inv (octs b)
    have hlen := b6_len (octs b)
    have hby := b6_bytes (octs b)
    have hlc := b6_lc (octs b)
    have hres : b64 (octs b) = b6end (b6run (octs b)) := rfl
    rw [hres] at hQ
    generalize b6run (octs b) = S at hinv hlen hby hlc hQ
    rcases hinv with h0 | h2 | h4
    · have e : b6end S = S.out := by unfold b6end; rw [if_neg (by omega), if_neg (by omega)]
      rw [e] at hQ
      refine x_if (b := false) (by have : ((S.lb : Int) == 2) = false := by simp; omega
                                   rw [← this]; exact et_cmp (ev_name rfl) ev_int co_eq) (fun h => nomatch h) fun _ => ?_
      refine x_if (b := false) (by have : ((S.lb : Int) == 4) = false := by simp; omega
                                   rw [← this]; exact et_cmp (ev_name rfl) ev_int co_eq) (fun h => nomatch h) fun _ => x_seq (x_seq ?_)
      refine x_if (b := false) (et_plain (ev_name rfl) tr_bool) (fun h => nomatch h) fun _ => x_seq ?_
      refine x_return (ev_call ?gf0 (.cons (ev_name rfl) rfl .nil) (fs_bytes_nat (l := S.out) ?hr0 ?hl0)) hQ
      case gf0 => refine' GN.typ ?ga10 rfl (by decide) rfl; (show nsIn (Mine.kk.heap_1 w.params) mainGlobals _ = _); k_dflt k_is
      case hr0 =>
        intro m hm
        try simp only [List.mem_append, List.mem_singleton] at hm
        rcases hm with hm
        · exact hby m hm

      case hl0 => (try simp only [List.length_append, List.length_singleton]); omega
    · have e : b6end S = S.out ++ [al (S.lc % 4 * 16)] ++ [61] ++ [61] := by unfold b6end; rw [if_pos h2]; simp
      rw [e] at hQ
      refine x_if (b := true) (by have : ((S.lb : Int) == 2) = true := by simp; omega
                                  rw [← this]; exact et_cmp (ev_name rfl) ev_int co_eq) (fun _ => ?_) fun h => nomatch h
      refine x_append (i := 0) (d := .int (al (S.lc % 4 * 16) : Nat)) rfl ?ev2 trivial (by rw [nat_len]; omega) rfl rfl rfl rfl ?_
      case ev2 =>
        refine' ev_item (d := .byt alphaL.toArray) (i := .int (S.lc % 4 * 16 : Nat)) (ev_gbytes ?e2 rfl) (by rw [← last2_eq]; exact ev_shl (ev_and (ev_name rfl) ev_int) ev_int (by decide) (by decide) (by rw [show (3 : Int) = ((3 : Nat) : Int) from rfl, band_nat, show (3 : Nat) = 2 ^ 2 - 1 by rfl, Nat.and_two_pow_sub_one_eq_mod]; omega)) (it_bytes (x := alphaL.getD (S.lc % 4 * 16) 0) (by omega) (by exact alphaL_at (by omega)) (by decide))
        case e2 => (show nsIn (Mine.kk.heap_1 w.params) mainGlobals _ = _); k_dflt k_is
      rw [← nat_snoc]
      refine x_append (i := 0) (d := .int (61 : Nat)) rfl ev_int trivial (by rw [nat_len, List.length_append]; simp; omega) rfl rfl rfl rfl ?_
      rw [← nat_snoc]
      refine x_append (i := 0) (d := .int (61 : Nat)) rfl ev_int trivial (by rw [nat_len, List.length_append, List.length_append]; simp; omega) rfl rfl rfl rfl (x_seq ?_)
      rw [← nat_snoc]
      refine x_if (b := false) (et_plain (ev_name rfl) tr_bool) (fun h => nomatch h) fun _ => x_seq ?_
      refine x_return (ev_call ?gf2 (.cons (ev_name rfl) rfl .nil) (fs_bytes_nat (l := S.out ++ [al (S.lc % 4 * 16)] ++ [61] ++ [61]) ?hr2 ?hl2)) hQ
      case gf2 => refine' GN.typ ?ga11 rfl (by decide) rfl; (show nsIn (Mine.kk.heap_1 w.params) mainGlobals _ = _); k_dflt k_is
      case hr2 =>
        intro m hm
        try simp only [List.mem_append, List.mem_singleton] at hm
        rcases hm with ((hm | hm) | hm) | hm
        · exact hby m hm
        all_goals (subst hm; first | exact al_lt _ | decide)
      case hl2 => (try simp only [List.length_append, List.length_singleton]); omega
    · have e : b6end S = S.out ++ [al (S.lc % 16 * 4)] ++ [61] := by unfold b6end; rw [if_neg (by omega), if_pos h4]; simp
      rw [e] at hQ
      refine x_if (b := false) (by have : ((S.lb : Int) == 2) = false := by simp; omega
                                   rw [← this]; exact et_cmp (ev_name rfl) ev_int co_eq) (fun h => nomatch h) fun _ => ?_
      refine x_if (b := true) (by have : ((S.lb : Int) == 4) = true := by simp; omega
                                  rw [← this]; exact et_cmp (ev_name rfl) ev_int co_eq) (fun _ => ?_) fun h => nomatch h
      refine x_append (i := 0) (d := .int (al (S.lc % 16 * 4) : Nat)) rfl ?ev4 trivial (by rw [nat_len]; omega) rfl rfl rfl rfl ?_
      case ev4 =>
        refine' ev_item (d := .byt alphaL.toArray) (i := .int (S.lc % 16 * 4 : Nat)) (ev_gbytes ?e4 rfl) (by rw [← last4_eq]; exact ev_shl (ev_and (ev_name rfl) ev_int) ev_int (by decide) (by decide) (by rw [show (15 : Int) = ((15 : Nat) : Int) from rfl, band_nat, show (15 : Nat) = 2 ^ 4 - 1 by rfl, Nat.and_two_pow_sub_one_eq_mod]; omega)) (it_bytes (x := alphaL.getD (S.lc % 16 * 4) 0) (by omega) (by exact alphaL_at (by omega)) (by decide))
        case e4 => (show nsIn (Mine.kk.heap_1 w.params) mainGlobals _ = _); k_dflt k_is
      rw [← nat_snoc]
      refine x_append (i := 0) (d := .int (61 : Nat)) rfl ev_int trivial (by rw [nat_len, List.length_append]; simp; omega) rfl rfl rfl rfl (x_seq (x_seq ?_))
      rw [← nat_snoc]
      refine x_if (b := false) (et_plain (ev_name rfl) tr_bool) (fun h => nomatch h) fun _ => x_seq ?_
      refine x_return (ev_call ?gf4 (.cons (ev_name rfl) rfl .nil) (fs_bytes_nat (l := S.out ++ [al (S.lc % 16 * 4)] ++ [61]) ?hr4 ?hl4)) hQ
      case gf4 => refine' GN.typ ?ga12 rfl (by decide) rfl; (show nsIn (Mine.kk.heap_1 w.params) mainGlobals _ = _); k_dflt k_is
      case hr4 =>
        intro m hm
        try simp only [List.mem_append, List.mem_singleton] at hm
        rcases hm with (hm | hm) | hm
        · exact hby m hm
        all_goals (subst hm; first | exact al_lt _ | decide)
      case hl4 => (try simp only [List.length_append, List.length_singleton]); omega
theorem f_b64 {w p loose mean mg mb} {k : Nat} {b : Array UInt8} (hsz : b.size ≤ 1000) : FS (c1 w p loose mean mg mb) (k + 3) (.ref 51) [.byt b] (.byt (bytesOf (b64 (octs b)))) := by
  refine FK.fs ?_
  refine' fs_introK (ps := [Str.ofString "s", Str.ofString "altchars"]) (kw := []) (xs := [.none]) (xd := [.none]) ?ho ?hcd ?hxr ?hb ?hl ?hps ?hk ?hnd ?h1 ?h2 ?h3 ?_
  case ho => (show (Mine.kk.heap_1 w.params).lookup 51 = _); k_dflt k_is
  case hcd => (show codeIn (Mine.kk.heap_1 w.params) _ _ = true); k_dflt k_is
  case hxr => intro β; exact .cons (by first | exact .none | exact .bool _) .nil
  case hb => intro s vs hB h; match vs, h with | [a0], _ => exact BindsTo.of_defaults (T := 44) (o := tupO [.none] 0) rfl (hB.1 _ _ b64_d) rfl rfl rfl
  case hl => rfl
  case h1 => rfl
  case h2 => rfl
  case h3 => rfl
  case hps => decide
  case hk => decide +kernel
  case hnd => decide +kernel
  intro L A β₀ h₀ s₀ Q hQ
  refine' x_assign (ev_call_kw ?a1 ?a2 ?a3 ?a4 (ev_name rfl) rfl rfl rfl (f_b2a hsz)) rfl (.inl rfl) ?m
  case a1 => (show nsIn (Mine.kk.heap_1 w.params) mainGlobals _ = _); k_dflt k_is
  case a2 => (show (Mine.kk.heap_1 w.params).lookup 43 = _); k_dflt k_is
  case a3 => rfl
  case a4 => rfl
  case m =>
    refine x_if (et_cmp (ev_name rfl) ev_none co_isnot_none) (fun h => nomatch h) fun _ => x_seq ?_
    exact x_return (ev_name rfl) hQ
end Mine


open PySem PySem.W PySem.W.X PyProof.Rows PySem.Calls PySem.Spec
set_option Elab.async false
namespace Mine
set_option maxRecDepth 100000
set_option maxHeartbeats 1000000
set_option linter.unusedVariables false
set_option pp.deepTerms false
set_option pp.maxSteps 1500
theorem warmv : ∀ w : World, (Mine.kk.heap_1 w.params, PySem.Challenge.rw_om0024_02.prog) = (Mine.kk.heap_1 w.params, PySem.Challenge.rw_om0024_02.prog) := by
  k_fill
  intro w; rfl

theorem f_varint {w p loose mean mg mb} {k : Nat} {ns : List Nat} {j m : Nat} (hlen : j + m < ns.length) (hm : m ≤ 1000) (hgo : ∀ i, i < m → (ns.getD (j + i) 0).testBit 6 = true) (hstop : (ns.getD (j + m) 0).testBit 6 = false) : FV (c1 w p loose mean mg mb) (k + 1) (.ref 66) (nat ns) j (j + m + 1) (vval ns j m : Nat) := by
  refine' fv_intro (x := Str.ofString "iterator") ?ho ?hcd ?hb ?hk ?hnd ?h1 ?h2 ?h3 ?_
  case ho => (show (Mine.kk.heap_1 w.params).lookup 66 = _); k_dflt k_is
  case hcd => (show codeIn (Mine.kk.heap_1 w.params) _ _ = true); k_dflt k_is
  case hb => intro s v; exact BindsTo.of_eq rfl
  case h1 => rfl
  case h2 => rfl
  case h3 => rfl
  case hk => rfl
  case hnd => decide +kernel
  intro L A β₀ h₀ s₀ a LL vs n hL hr haL
  have hat : ∀ i, i ≤ m → (nat ns)[j + i]? = some (.int (ns.getD (j + i) 0 : Nat)) := fun i hi => by
    unfold nat
    rw [List.getElem?_map, List.getD_eq_getElem?_getD]
    have : j + i < ns.length := by omega
    rw [List.getElem?_eq_getElem this]; rfl
  refine x_next (d := .int (ns.getD j 0 : Nat)) ?g1 rfl hL hr (hat 0 (by omega)) rfl (.inl rfl) ?_
  case g1 => refine' GN.blt ?ga6 rfl (by decide) rfl; (show nsIn (Mine.kk.heap_1 w.params) mainGlobals _ = _); k_dflt k_is
  refine x_assign (d := .int (ns.getD j 0 % 64 : Nat)) (by rw [← and63]; exact ev_and (ev_name rfl) ev_int) rfl (.inl rfl) ?_
  refine x_while_h m (fun i => [(Str.ofString "b", .int (ns.getD (j + i) 0 : Nat)), (Str.ofString "val", .int (vval ns j i : Nat)), (Str.ofString "iterator", .kref a)]) (fun _ => []) (fun i => [(a, itAt LL (j + i + 1))]) (Fg.at ⟨rfl, rfl, rfl, trivial⟩) rfl rfl (fun i hi => ?go) ?stop (fun i hi => ?body) ?rest
  case go => rw [← hgo i hi, ← and64]; exact et_plain (ev_and (ev_name rfl) ev_int) tr_int
  case stop => rw [← hstop, ← and64]; exact et_plain (ev_and (ev_name rfl) ev_int) tr_int
  case body =>
    refine x_ishl_int (a := (vval ns j i : Nat)) (b := 6) rfl ev_int (by decide) (by have := bits_small (vval_lt ns j i); omega) rfl (.inl rfl) ?_
    refine x_next (d := .int (ns.getD (j + (i + 1)) 0 : Nat)) ?g2 rfl hL hr (hat (i + 1) (by omega)) rfl (.inl rfl) ?_
    case g2 => refine' GN.blt ?ga7 rfl (by decide) rfl; (show nsIn (Mine.kk.heap_1 w.params) mainGlobals _ = _); k_dflt k_is
    refine x_ior_int (b := (ns.getD (j + (i + 1)) 0 % 64 : Nat)) rfl (by rw [← and63]; exact ev_and (ev_name rfl) ev_int) rfl (.inl rfl) ?_
    rw [or_low _ _ (by omega)]
    exact x_nil fun s' S => S.forget ⟨rfl, rfl, rfl, trivial⟩
  case rest => exact x_return_st (ev_name rfl) fun t s' S => ⟨⟨t, rfl⟩, _, S⟩
end Mine


open PySem PySem.W PySem.W.X PyProof.Rows PySem.Calls PySem.Spec
set_option Elab.async false
namespace Mine
set_option maxRecDepth 100000
set_option maxHeartbeats 1000000
set_option linter.unusedVariables false
set_option pp.deepTerms false
set_option pp.maxSteps 1500
theorem warmf : ∀ w : World, (Mine.kk.heap_1 w.params, PySem.Challenge.rw_om0024_02.prog) = (Mine.kk.heap_1 w.params, PySem.Challenge.rw_om0024_02.prog) := by
  k_fill
  intro w; rfl

theorem f_digits {w p loose mean mg mb} {k : Nat} {d : Nat} (hd : d < 16384) : FS (c1 w p loose mean mg mb) (k + 1) (.ref 127) [.int d] (.lst (nat (digs d))) := by
  refine' fs_intro (ps := [Str.ofString "number"]) ?ho ?hcd ?hb ?hl ?hps ?hk ?hnd ?h1 ?h2 ?h3 ?_
  case ho => (show (Mine.kk.heap_1 w.params).lookup 127 = _); k_dflt k_is
  case hcd => (show codeIn (Mine.kk.heap_1 w.params) _ _ = true); k_dflt k_is
  case hb => intro s vs h; match vs, h with | [a0], _ => exact BindsTo.of_eq rfl
  case hl => rfl
  case h1 => rfl
  case h2 => rfl
  case h3 => rfl
  case hps => decide
  case hk => decide +kernel
  case hnd => decide +kernel
  intro L A β₀ h₀ s₀ Q hQ
  refine' x_assign (d := .lst (nat (figF d 0))) ?a1 ?a2 ?a3 ?a4 ?a5
  case a1 => exact ev_list (.cons (EV.int (ev_mod (ev_name rfl) ev_int (by decide)) (fmod_nat d 64)) rfl .nil) (Nat.le_of_ble_eq_true rfl)
  case a2 => rfl
  case a3 => exact .inl rfl
  case a5 => rfl
  case a4 =>
  refine' x_while (figN d) (fun i => [(Str.ofString "number", .int ((d / 64 ^ i : Nat) : Int)), (Str.ofString "figures", .lst (nat (figF d i)))]) (fun _ => []) ?b1 rfl (fun i hi => ?b2) ?b3 (fun i hi => ?b4) ?b5
  case b1 => exact Fg.at ⟨by show some (Dat.int (d : Nat)) = _; simp, rfl, trivial⟩
  case b2 =>
    refine' ET.to (et_cmp (ev_name rfl) ev_int co_gt) ?_
    have := figN_go hi
    simp only [decide_eq_true_eq]; omega
  case b3 =>
    refine' ET.to (et_cmp (ev_name rfl) ev_int co_gt) ?_
    have := figN_stop hd
    simp only [decide_eq_false_iff_not]; omega
  case b4 =>
    refine' x_ifdiv_int (a := ((d / 64 ^ i : Nat) : Int)) (b := 64) rfl ev_int (by decide) (no_pylong (by decide)) rfl (.inl rfl) ?_
    have e : ((d / 64 ^ i : Nat) : Int).fdiv 64 = ((d / 64 ^ (i + 1) : Nat) : Int) := by
      rw [show (64 : Int) = ((64 : Nat) : Int) from rfl, fdiv_nat, Nat.div_div_eq_div_mul, Nat.pow_succ]
    rw [e]
    have hl := figF_len d i
    have hn := figN_le d
    refine' x_assign (d := .lst (nat (figF d (i + 1)))) ?c1 ?c2 ?c3 ?c4 ?c5
    case c1 =>
      have e2 : nat (figF d (i + 1)) = [Dat.int ((d / 64 ^ (i + 1) % 64 + 64 : Nat) : Int)] ++ nat (figF d i) := rfl
      rw [e2]
      refine' ev_cat (ev_list (.cons (EV.int (ev_add (ev_mod (ev_name rfl) ev_int (by decide)) ev_int) ?_) rfl .nil) (by simp)) (ev_name rfl) (by rw [nat_len, hl]; simp; omega)
      rw [show (64 : Int) = ((64 : Nat) : Int) from rfl, fmod_nat]; push_cast; rfl
    case c2 => rfl
    case c3 => exact .inl rfl
    case c5 => rfl
    case c4 => exact x_nil fun s' S => S.forget ⟨rfl, rfl, trivial⟩
  case b5 =>
    have hl := figF_len d (figN d)
    have hn := figN_le d
    refine' x_return ?d1 hQ
    have e2 : nat (digs d) = [Dat.int (((figF d (figN d)).getD 0 0 + 128 : Nat) : Int)] ++ nat ((figF d (figN d)).drop 1) := rfl
    rw [e2]
    refine' ev_cat (ev_list (.cons (EV.int (ev_add (ev_item (ev_name rfl) ev_int (it_list (by omega) (by omega) (fig_head d _))) ev_int) ?_) rfl .nil) (by simp)) (ev_item (ev_name rfl) (ev_slc_from ev_int) ?_) (by rw [nat_len]; simp; omega)
    · push_cast; rfl
    · have e3 := it_from (c := (c1 w p loose mean mg mb)) (k := k) (ds := nat (figF d (figN d))) (i := 1) (by rw [nat_len, hl]; omega) (by omega)
      rw [show (nat (figF d (figN d))).drop (1 : Int).toNat = nat ((figF d (figN d)).drop 1) by unfold nat; rw [List.map_drop]; rfl] at e3
      exact e3
end Mine


open PySem PySem.W PySem.W.X PyProof.Rows PySem.Calls PySem.Spec
set_option Elab.async false
namespace Mine
set_option maxRecDepth 100000
set_option maxHeartbeats 1000000
set_option linter.unusedVariables false
set_option pp.deepTerms false
set_option pp.maxSteps 1500
theorem warmg : ∀ w : World, (Mine.kk.heap_1 w.params, PySem.Challenge.rw_om0024_02.prog) = (Mine.kk.heap_1 w.params, PySem.Challenge.rw_om0024_02.prog) := by
  k_fill
  intro w; rfl

theorem f_run {w p loose mean mg mb} {k : Nat} {m : Nat} {ds : List Nat} : FS (c1 w p loose mean mg mb) (k + 1) (.ref 139) [.int m, .lst (nat ds)] (.int ((runF m ds : Nat) : Int)) := by
  refine' fs_intro (ps := [Str.ofString "mode", Str.ofString "deeds"]) ?ho ?hcd ?hb ?hl ?hps ?hk ?hnd ?h1 ?h2 ?h3 ?_
  case ho => (show (Mine.kk.heap_1 w.params).lookup 139 = _); k_dflt k_is
  case hcd => (show codeIn (Mine.kk.heap_1 w.params) _ _ = true); k_dflt k_is
  case hb => intro s vs h; match vs, h with | [a0, a1], _ => exact BindsTo.of_eq rfl
  case hl => rfl
  case h1 => rfl
  case h2 => rfl
  case h3 => rfl
  case hps => decide
  case hk => decide +kernel
  case hnd => decide +kernel
  intro L A β₀ h₀ s₀ Q hQ
  refine' x_for (fun i => [(Str.ofString "mode", .int ((runF m (ds.take i) : Nat) : Int)), (Str.ofString "deeds", .lst (nat ds))]) (fun _ => []) [(Str.ofString "mode", .int ((runF m ds : Nat) : Int))] [] (ei_list_nat (ev_name rfl)) (Fg.at ⟨rfl, rfl, trivial⟩) rfl ?turn ?done ?rest ?fold
  case fold => intro _; rfl
  case done =>
    rw [nat_len, List.take_length]
    exact x_nil fun s' S => S.forget ⟨rfl, trivial⟩
  case rest => exact x_return (ev_name rfl) hQ
  case turn =>
    intro i dd hdd
    unfold nat at hdd
    rw [List.getElem?_map, Option.map_eq_some_iff] at hdd
    obtain ⟨d, hd, rfl⟩ := hdd
    rw [runF_succ m ds i d hd]
    generalize runF m (ds.take i) = r
    refine ⟨_, as_name rfl (.inl rfl), fun β₁ η' => ?_⟩
    refine' x_assign (d := .int ((d / 4 : Nat) : Int)) ?a1 ?a2 ?a3 ?a4 ?a5
    case a1 => exact EV.int (ev_fdiv (ev_name rfl) ev_int (by decide) (no_pylong (by decide))) (fdivL d 4 4 rfl)
    case a2 => rfl
    case a3 => exact .inl rfl
    case a5 => rfl
    case a4 =>
    refine' x_if (b := decide (d % 4 = 0)) ?b1 (fun h0 => ?b2) (fun h0 => ?b3)
    case b1 => exact ET.to (et_cmp (EV.int (ev_mod (ev_name rfl) ev_int (by decide)) (fmodL d 4 4 rfl)) ev_int co_eq) (eqL (d % 4) 0 0 rfl)
    case b2 =>
      have h0 : d % 4 = 0 := of_decide_eq_true h0
      refine' x_ior_int (a := ((r : Nat) : Int)) (b := ((d / 4 : Nat) : Int)) rfl (ev_name rfl) rfl (.inl rfl) ?_
      rw [bor_nat, show r ||| d / 4 = runStep r d by unfold runStep; rw [if_pos h0]]
      exact x_seq (x_nil fun s' S => S.forget ⟨rfl, rfl, trivial⟩)
    case b3 =>
    have h0 : ¬ d % 4 = 0 := of_decide_eq_false h0
    refine' x_if (b := decide (d % 4 = 1)) ?c1 (fun h1 => ?c2) (fun h1 => ?c3)
    case c1 => exact ET.to (et_cmp (EV.int (ev_mod (ev_name rfl) ev_int (by decide)) (fmodL d 4 4 rfl)) ev_int co_eq) (eqL (d % 4) 1 1 rfl)
    case c2 =>
      have h1 : d % 4 = 1 := of_decide_eq_true h1
      refine' x_isub_int (a := ((r : Nat) : Int)) (b := ((r &&& d / 4 : Nat) : Int)) rfl (EV.int (ev_and (ev_name rfl) (ev_name rfl)) (band_nat r (d / 4))) rfl (.inl rfl) ?_
      rw [sub_and, show r - (r &&& d / 4) = runStep r d by unfold runStep; rw [if_neg h0, if_pos h1]]
      exact x_seq (x_seq (x_nil fun s' S => S.forget ⟨rfl, rfl, trivial⟩))
    case c3 =>
    have h1 : ¬ d % 4 = 1 := of_decide_eq_false h1
    refine' x_if (b := decide (d % 4 = 2)) ?d1 (fun h2 => ?d2) (fun h2 => ?d3)
    case d1 => exact ET.to (et_cmp (EV.int (ev_mod (ev_name rfl) ev_int (by decide)) (fmodL d 4 4 rfl)) ev_int co_eq) (eqL (d % 4) 2 2 rfl)
    case d2 =>
      have h2 : d % 4 = 2 := of_decide_eq_true h2
      refine' x_ixor (a := ((r : Nat) : Int)) (b := ((d / 4 : Nat) : Int)) rfl (ev_name rfl) rfl (.inl rfl) ?_
      rw [bxor_nat, show r ^^^ d / 4 = runStep r d by unfold runStep; rw [if_neg h0, if_neg h1, if_pos h2]]
      exact x_seq (x_seq (x_seq (x_nil fun s' S => S.forget ⟨rfl, rfl, trivial⟩)))
    case d3 =>
    have h2 : ¬ d % 4 = 2 := of_decide_eq_false h2
    refine' x_assign (d := .int ((runShift (d / 4) : Nat) : Int)) ?e1 ?e2 ?e3 ?e4 ?e5
    case e1 =>
      refine' EV.int (ev_sub ev_int (ev_mul ev_int (EV.int (ev_mod (EV.int (ev_fdiv (ev_name rfl) ev_int (by decide) (no_pylong (by decide))) (fdivL (d / 4) 3 3 rfl)) ev_int (by decide)) (fmodL (d / 4 / 3) 3 3 rfl)) (mul_ok (by decide)))) ?_
      unfold runShift; omega
    case e2 => rfl
    case e3 => exact .inl rfl
    case e5 => rfl
    case e4 =>
    refine' x_assign (d := .int ((r / 2 ^ runFrom (d / 4) % 8 : Nat) : Int)) ?f1 ?f2 ?f3 ?f4 ?f5
    case f1 =>
      refine' EV.int (ev_and (ev_shr (b := ((runFrom (d / 4) : Nat) : Int)) (ev_name rfl) (EV.int (ev_sub ev_int (ev_mul ev_int (EV.int (ev_mod (ev_name rfl) ev_int (by decide)) (fmodL (d / 4) 3 3 rfl)) (mul_ok (by decide)))) ?_) (by omega)) ev_int) ?_
      · unfold runFrom; omega
      · rw [shr_nat, and7]
    case f2 => rfl
    case f3 => exact .inl rfl
    case f5 => rfl
    case f4 =>
    have hs6 : runShift (d / 4) ≤ 6 := by unfold runShift; omega
    refine' x_iadd_int (a := ((r : Nat) : Int)) (b := (((r / 2 ^ runFrom (d / 4) % 8 : Nat) : Int) - ((r / 2 ^ runShift (d / 4) % 8 : Nat) : Int)) * ((2 ^ runShift (d / 4) : Nat) : Int)) rfl ?g1 rfl (.inl rfl) ?g2
    case g1 =>
      refine' ev_mul (ev_sub (ev_name rfl) (EV.int (ev_and (ev_shr (ev_name rfl) (ev_name rfl) (by omega)) ev_int) ?_)) (EV.int (ev_shl ev_int (ev_name rfl) (by omega) (by omega) (by decide)) (one_shl _)) (mul_ok ?_)
      · rw [shr_nat, and7]
      · omega
    case g2 =>
    rw [copy_eq, show r + r / 2 ^ runFrom (d / 4) % 8 * 2 ^ runShift (d / 4) - r / 2 ^ runShift (d / 4) % 8 * 2 ^ runShift (d / 4) = runStep r d by unfold runStep; rw [if_neg h0, if_neg h1, if_neg h2]]
    exact x_seq (x_seq (x_seq (x_nil fun s' S => S.forget ⟨rfl, rfl, trivial⟩)))
end Mine


open PySem PySem.W PySem.W.X PyProof.Rows PySem.Calls PySem.Spec
set_option Elab.async false
namespace Mine
set_option maxRecDepth 100000
set_option maxHeartbeats 1000000
set_option linter.unusedVariables false
set_option pp.deepTerms false
set_option pp.maxSteps 1500
theorem warmh : ∀ w : World, (Mine.kk.heap_1 w.params, PySem.Challenge.rw_om0024_02.prog) = (Mine.kk.heap_1 w.params, PySem.Challenge.rw_om0024_02.prog) := by
  k_fill
  intro w; rfl

theorem f_rights {w p loose mean mg mb} {k : Nat} {x : Str} (hx : x.cps.size = 10) : FS (c1 w p loose mean mg mb) (k + 1) (.ref 146) [.str x] (.int ((rightsTo x 9 : Nat) : Int)) := by
  refine' fs_intro (ps := [Str.ofString "signs"]) ?ho ?hcd ?hb ?hl ?hps ?hk ?hnd ?h1 ?h2 ?h3 ?_
  case ho => (show (Mine.kk.heap_1 w.params).lookup 146 = _); k_dflt k_is
  case hcd => (show codeIn (Mine.kk.heap_1 w.params) _ _ = true); k_dflt k_is
  case hb => intro s vs h; match vs, h with | [a0], _ => exact BindsTo.of_eq rfl
  case hl => rfl
  case h1 => rfl
  case h2 => rfl
  case h3 => rfl
  case hps => decide
  case hk => decide +kernel
  case hnd => decide +kernel
  intro L A β₀ h₀ s₀ Q hQ
  refine' x_assign (d := .int ((rightsTo x 0 : Nat) : Int)) ?a1 ?a2 ?a3 ?a4 ?a5
  case a1 => exact ev_int
  case a2 => rfl
  case a3 => exact .inl rfl
  case a5 => rfl
  case a4 =>
  refine' x_for (ds := nat (List.range 9)) (fun i => [(Str.ofString "rights", .int ((rightsTo x i : Nat) : Int)), (Str.ofString "signs", .str x)]) (fun _ => []) [(Str.ofString "rights", .int ((rightsTo x 9 : Nat) : Int))] [] ?ei (Fg.at ⟨rfl, rfl, trivial⟩) rfl ?turn ?done ?rest ?fold
  case fold => intro _; rfl
  case ei =>
    refine' ei_range_nat (ev_call ?g1 (.cons ev_int rfl .nil) fs_range1) (by decide) (by decide)
    case g1 => refine' GN.typ ?ga6 rfl (by decide) rfl; (show nsIn (Mine.kk.heap_1 w.params) mainGlobals _ = _); k_dflt k_is
  case done => exact x_nil fun s' S => S.forget ⟨rfl, trivial⟩
  case rest => exact x_return (ev_name rfl) hQ
  case turn =>
    intro n dd hdd
    have hn : n < 9 := by have := (List.getElem?_eq_some_iff.mp hdd).1; simpa [nat] using this
    have hdd' : dd = .int ((n : Nat) : Int) := by
      unfold nat at hdd
      rw [List.getElem?_map, List.getElem?_range hn] at hdd; cases hdd; rfl
    subst hdd'
    refine ⟨_, as_name rfl (.inl rfl), fun β₁ η' => ?_⟩
    refine' x_unpack_swap [Str.ofString "place", Str.ofString "above", Str.ofString "letter"] (d := .tup [.int ((8 - n : Nat) : Int), .int ((11 - n / 3 : Nat) : Int), .str (one (letC n))]) ?b1 is_tup ?b2 rfl ?b3 ?b4 ?b5
    case b4 => rfl
    case b5 => rfl
    case b1 =>
      refine' ev_tuple (.cons (EV.int (ev_sub ev_int (ev_name rfl)) (by omega)) rfl (.cons (EV.int (ev_sub ev_int (EV.int (ev_fdiv (ev_name rfl) ev_int (by decide) (no_pylong (by decide))) (fdivL n 3 3 rfl))) (by omega)) rfl (.cons (ev_item ev_str (EV.int (ev_fdiv (ev_name rfl) ev_int (by decide) (no_pylong (by decide))) (fdivL n 3 3 rfl)) (it_str (by omega) (by omega) (sst_at n hn))) rfl .nil))) (by simp)
    case b2 =>
      intro y hy
      simp only [List.mem_cons, List.mem_nil_iff, or_false] at hy
      rcases hy with rfl | rfl | rfl <;> exact ⟨.inl rfl, rfl⟩
    case b3 =>
    refine' x_own_dict (l := datP (mean2 n)) ?c1 ?c2 ?c3 ?c4 ?c5 ?c6 ?c7 ?c8 ?c9
    case c1 =>
      exact .cons ev_str ev_int (.cons (ev_item ev_str (EV.int (ev_mod (ev_name rfl) ev_int (by decide)) (fmodL n 3 3 rfl)) (it_str (by omega) (by omega) (rwx_at n hn))) (EV.int (ev_shl ev_int (ev_name rfl) (by omega) (by omega) (by decide)) (one_shl _)) .nil)
    case c2 => exact fun h => nomatch h
    case c3 => exact Nat.le_of_ble_eq_true rfl
    case c4 => exact mean_two n hn
    case c5 => rfl
    case c6 => rfl
    case c7 => exact .inl rfl
    case c9 => rfl
    case c8 =>
    refine' x_if (b := decide (n % 3 = 2)) ?d1 (fun h3 => ?d2) (fun h3 => x_seq ?d3)
    case d1 => exact ET.to (et_cmp (EV.int (ev_mod (ev_name rfl) ev_int (by decide)) (fmodL n 3 3 rfl)) ev_int co_eq) (eqL (n % 3) 2 2 rfl)
    case d3 =>
      have h3 : ¬ n % 3 = 2 := of_decide_eq_false h3
      refine' x_iadd_int (a := ((rightsTo x n : Nat) : Int)) (b := ((meanV n (x.cps.getD (n + 1) 0) : Nat) : Int)) rfl ?z1 rfl (.inl rfl) ?z2
      case z1 =>
        have e : Dat.int ((meanV n (x.cps.getD (n + 1) 0) : Nat) : Int) = ((datP (mean2 n)).lookup (one (x.cps.getD (n + 1) 0))).getD (.int ((65536 : Nat) : Int)) := by
          rw [datP_get]; unfold meanV meanL; rw [if_neg h3]
        rw [e]
        exact ev_meth (ev_name rfl) (.cons (ev_item (ev_name rfl) (ev_add (ev_name rfl) ev_int) (it_str (by omega) (by omega) (sign_at (by omega)))) rfl (.cons ev_int rfl .nil)) (mc_get is_dS key_str)
      case z2 =>
        refine' x_nil fun s' S => ?_
        have e : ((rightsTo x n : Nat) : Int) + ((meanV n (x.cps.getD (n + 1) 0) : Nat) : Int) = ((rightsTo x (n + 1) : Nat) : Int) := by rw [rightsTo_succ]; push_cast; rfl
        rw [e] at S
        exact S.drop.forget ⟨rfl, rfl, trivial⟩
    case d2 =>
      have h3 : n % 3 = 2 := of_decide_eq_true h3
      refine' x_setitem (i := 0) (key := one (letC n)) (d := .int ((2 ^ (8 - n) + 2 ^ (11 - n / 3) : Nat) : Int)) (l := datP (mean2 n)) rfl ?e1 (ev_name rfl) (mean_three n hn) ?e2 ?e3 ?e4 ?e5 ?e6
      case e1 =>
        refine' EV.int (ev_add (EV.int (ev_shl ev_int (ev_name rfl) (by omega) (by omega) (by decide)) (one_shl _)) (EV.int (ev_shl ev_int (ev_name rfl) (by omega) (by omega) (by decide)) (one_shl _))) ?_
        push_cast; rfl
      case e2 => exact Nat.le_of_ble_eq_true rfl
      case e4 => decide
      case e5 => decide
      case e6 => rfl
      case e3 =>
      refine' x_setitem (i := 0) (key := one (upC n)) (d := .int ((2 ^ (11 - n / 3) : Nat) : Int)) (l := datP (mean2 n) ++ [(one (letC n), .int ((2 ^ (8 - n) + 2 ^ (11 - n / 3) : Nat) : Int))]) rfl ?f1 ?f7 (mean_four n hn) ?f2 ?f3 ?f4 ?f5 ?f6
      case f1 => exact EV.int (ev_shl ev_int (ev_name rfl) (by omega) (by omega) (by decide)) (one_shl _)
      case f7 =>
        rw [← up_at n hn]
        exact ev_meth (ev_name rfl) .nil (mc_upper (by rw [up_at n hn]; exact Nat.le_of_ble_eq_true rfl))
      case f2 => exact Nat.le_of_ble_eq_true rfl
      case f4 => decide
      case f5 => decide
      case f6 => rfl
      case f3 =>
      refine' x_seq ?_
      rw [show datP (mean2 n) ++ [(one (letC n), Dat.int ((2 ^ (8 - n) + 2 ^ (11 - n / 3) : Nat) : Int))] ++ [(one (upC n), Dat.int ((2 ^ (11 - n / 3) : Nat) : Int))] = datP (mean4 n) from rfl]
      refine' x_iadd_int (a := ((rightsTo x n : Nat) : Int)) (b := ((meanV n (x.cps.getD (n + 1) 0) : Nat) : Int)) rfl ?z1 rfl (.inl rfl) ?z2
      case z1 =>
        have e : Dat.int ((meanV n (x.cps.getD (n + 1) 0) : Nat) : Int) = ((datP (mean4 n)).lookup (one (x.cps.getD (n + 1) 0))).getD (.int ((65536 : Nat) : Int)) := by
          rw [datP_get]; unfold meanV meanL; rw [if_pos h3]
        rw [e]
        exact ev_meth (ev_name rfl) (.cons (ev_item (ev_name rfl) (ev_add (ev_name rfl) ev_int) (it_str (by omega) (by omega) (sign_at (by omega)))) rfl (.cons ev_int rfl .nil)) (mc_get is_dS key_str)
      case z2 =>
        refine' x_nil fun s' S => ?_
        have e : ((rightsTo x n : Nat) : Int) + ((meanV n (x.cps.getD (n + 1) 0) : Nat) : Int) = ((rightsTo x (n + 1) : Nat) : Int) := by rw [rightsTo_succ]; push_cast; rfl
        rw [e] at S
        exact S.drop.forget ⟨rfl, rfl, trivial⟩
end Mine


open PySem PySem.W PySem.W.X PyProof.Rows PySem.Calls PySem.Spec
set_option Elab.async false
namespace Mine
set_option maxRecDepth 100000
set_option maxHeartbeats 1000000
set_option linter.unusedVariables false
set_option pp.deepTerms false
set_option pp.maxSteps 1500
theorem warmi : ∀ w : World, (Mine.kk.heap_1 w.params, PySem.Challenge.rw_om0024_02.prog) = (Mine.kk.heap_1 w.params, PySem.Challenge.rw_om0024_02.prog) := by
  k_fill
  intro w; rfl

def tab8 : List Str := (List.range 8).map flagNm
def tab4 : List Str := (List.range 4).map fun i => flagNm (i + 8)
theorem tab8_eq : [Str.ofString "OPTIMIZED", Str.ofString "NEWLOCALS", Str.ofString "VARARGS", Str.ofString "VARKEYWORDS", Str.ofString "NESTED", Str.ofString "GENERATOR", Str.ofString "NOFREE", Str.ofString "COROUTINE"].map Dat.str = tab8.map Dat.str := congrArg (List.map Dat.str) (show [Str.ofString "OPTIMIZED", Str.ofString "NEWLOCALS", Str.ofString "VARARGS", Str.ofString "VARKEYWORDS", Str.ofString "NESTED", Str.ofString "GENERATOR", Str.ofString "NOFREE", Str.ofString "COROUTINE"] = tab8 by decide +kernel)
theorem tab4_eq : [Str.ofString "ITERABLE_COROUTINE", Str.ofString "ASYNC_GENERATOR", Str.ofString "0x400", Str.ofString "0x800"].map Dat.str = tab4.map Dat.str := congrArg (List.map Dat.str) (show [Str.ofString "ITERABLE_COROUTINE", Str.ofString "ASYNC_GENERATOR", Str.ofString "0x400", Str.ofString "0x800"] = tab4 by decide +kernel)
theorem tabW_eq : tab8 ++ tab4 = tabW := by decide +kernel
theorem imm_strs {l : List Str} : ∀ d ∈ l.map Dat.str, Imm d := fun d hd => by obtain ⟨a, _, rfl⟩ := List.mem_map.mp hd; trivial
theorem f_words {w p loose mean mg mb} {k : Nat} {f : Nat} (hf : f < 4096) : FS (c1 w p loose mean mg mb) (k + 1) (.ref 151) [.int f] (.str (pf f)) := by
  refine' fs_intro (ps := [Str.ofString "flags"]) ?ho ?hcd ?hb ?hl ?hps ?hk ?hnd ?h1 ?h2 ?h3 ?_
  case ho => (show (Mine.kk.heap_1 w.params).lookup 151 = _); k_dflt k_is
  case hcd => (show codeIn (Mine.kk.heap_1 w.params) _ _ = true); k_dflt k_is
  case hb => intro s vs h; match vs, h with | [a0], _ => exact BindsTo.of_eq rfl
  case hl => rfl
  case h1 => rfl
  case h2 => rfl
  case h3 => rfl
  case hps => decide
  case hk => decide +kernel
  case hnd => decide +kernel
  intro L A β₀ h₀ s₀ Q hQ
  refine' x_own (ds := tab8.map Dat.str) ?a1 ?a2 ?a3 ?a4 ?a5 ?a6
  case a1 => rw [← tab8_eq]; exact ef_list (el_str (el_str (el_str (el_str (el_str (el_str (el_str (el_str .nil)))))))) (Nat.le_of_ble_eq_true rfl) imm_strs
  case a2 => rfl
  case a3 => rfl
  case a4 => exact .inr ⟨rfl, rfl⟩
  case a6 => rfl
  case a5 =>
  refine' x_iadd_list (i := 0) (es := tab4.map Dat.str) ?b1 ?b2 imm_strs ?b4 ?b5 ?b6 ?b7 ?b8
  case b1 => rfl
  case b2 => rw [← tab4_eq]; exact ev_list (el_str (el_str (el_str (el_str .nil)))) (Nat.le_of_ble_eq_true rfl)
  case b4 => rw [List.length_map, List.length_map]; decide
  case b5 => exact .inr ⟨rfl, rfl⟩
  case b6 => rfl
  case b7 =>
    intro j d hj
    match j, hj with
    | 0, _ => rfl
  case b8 =>
  rw [← List.map_append, tabW_eq]
  refine' x_return ?c1 hQ
  refine' ev_or2 (d₁ := .str (Txt.join ", " (nmsTo f 12))) (d₂ := .none) (b := decide (f ≠ 0)) ?d1 ?d2 ?d3 ?d4
  case d1 =>
    refine' ev_meth ev_str (.cons ?e1 rfl .nil) (mc_join (join_okN f (by omega)))
    have e : (nmsTo f 12).map Dat.str = ((List.range 12).filter fun i => f.testBit i).map fun i => Dat.str (flagNm i) := by unfold nmsTo; rw [List.map_map]; rfl
    rw [e]
    refine' ev_comp1 [(Str.ofString "table", .lst (tabW.map Dat.str)), (Str.ofString "flags", .int (f : Nat))] (List.range 12) (fun i => f.testBit i) (fun i => Dat.str (flagNm i)) ?q1 ?q2 ?q3 ?q4 ?q5 ?q6 ?q7 ?q8
    case q1 =>
      refine' ei_range_nat (ev_call ?r1 (.cons ev_int rfl .nil) fs_range1) (by decide) (by decide)
      case r1 => refine' GN.typ ?ga6 rfl (by decide) rfl; (show nsIn (Mine.kk.heap_1 w.params) mainGlobals _ = _); k_dflt k_is
    case q2 => exact compOk rfl (by decide +kernel) rfl ⟨⟨rfl, (fun h => nomatch h), .inl rfl, rfl⟩, ⟨rfl, (fun h => nomatch h), .inl rfl, rfl⟩, trivial⟩ (cov_cons rfl (cov_cons rfl cov_nil))
    case q3 => rfl
    case q4 => rfl
    case q5 => intro C n hn; exact ts_one (ET.to (et_plain (ev_and (ev_shr (ev_name rfl) (ev_name rfl) (by omega)) ev_int) tr_int) (shr_and1 f n))
    case q6 =>
      intro C n hn _
      have hn' : n < 12 := by simpa using hn
      refine' ev_item (ev_name rfl) (ev_name rfl) (it_list (by omega) (by omega) ?_)
      rw [List.getElem?_map, tabW_at n hn']; rfl
    case q7 =>
      have h2 : ((List.range 12).filter fun i => f.testBit i).length ≤ 12 := Nat.le_trans (List.length_filter_le _ _) (by simp)
      rw [List.length_map]; omega
    case q8 => intro _ _; rfl
  case d2 =>
    have h1 := join_small f (n := 12) (by omega)
    have e : (((Txt.join ", " (nmsTo f 12)).length : Int) != 0) = decide (f ≠ 0) := by
      by_cases h0 : f = 0
      · subst h0; decide +kernel
      · have := join_pos f (n := 12) (by omega) (by omega) h0
        rw [decide_eq_true h0, bne_iff_ne]; omega
    rw [← e]
    exact tr_str h1
  case d3 =>
    intro h
    rw [pf_12 hf (of_decide_eq_true h)]
  case d4 =>
    intro h
    have h0 : f = 0 := by simpa using h
    subst h0
    rw [pf_zero]
    exact ev_str
end Mine


open PySem PySem.W PySem.W.X PyProof.Rows PySem.Calls PySem.Spec
set_option Elab.async false
namespace Mine
set_option maxRecDepth 100000
set_option maxHeartbeats 1000000
set_option linter.unusedVariables false
set_option pp.deepTerms false
set_option pp.maxSteps 1500
theorem warmj : ∀ w : World, (Mine.kk.heap_1 w.params, PySem.Challenge.rw_om0024_02.prog) = (Mine.kk.heap_1 w.params, PySem.Challenge.rw_om0024_02.prog) := by
  k_fill
  intro w; rfl

theorem f_told {w p loose mean mg mb} {k : Nat} {as : List Nat} {r : Nat} (hl : as.length = 6) : FS (c1 w p loose mean mg mb) (k + 1) (.ref 156) [.lst (nat as), .int r] (.int ((toldTo as r 12 : Nat) : Int)) := by
  refine' fs_intro (ps := [Str.ofString "answers", Str.ofString "rights"]) ?ho ?hcd ?hb ?hl ?hps ?hk ?hnd ?h1 ?h2 ?h3 ?_
  case ho => (show (Mine.kk.heap_1 w.params).lookup 156 = _); k_dflt k_is
  case hcd => (show codeIn (Mine.kk.heap_1 w.params) _ _ = true); k_dflt k_is
  case hb => intro s vs h; match vs, h with | [a0, a1], _ => exact BindsTo.of_eq rfl
  case hl => rfl
  case h1 => rfl
  case h2 => rfl
  case h3 => rfl
  case hps => decide
  case hk => decide +kernel
  case hnd => decide +kernel
  intro L A β₀ h₀ s₀ Q hQ
  refine' x_assign (d := .int ((toldTo as r 0 : Nat) : Int)) ?a1 ?a2 ?a3 ?a4 ?a5
  case a1 => exact ev_int
  case a2 => rfl
  case a3 => exact .inl rfl
  case a5 => rfl
  case a4 =>
  refine' x_for (ds := nat (List.range 12)) (fun i => [(Str.ofString "told", .int ((toldTo as r i : Nat) : Int)), (Str.ofString "answers", .lst (nat as)), (Str.ofString "rights", .int ((r : Nat) : Int))]) (fun _ => []) [(Str.ofString "told", .int ((toldTo as r 12 : Nat) : Int))] [] ?ei (Fg.at ⟨rfl, rfl, rfl, trivial⟩) rfl ?turn ?done ?rest ?fold
  case fold => intro _; rfl
  case ei =>
    refine' ei_range_nat (ev_call ?g1 (.cons ev_int rfl .nil) fs_range1) (by decide) (by decide)
    case g1 => refine' GN.typ ?ga6 rfl (by decide) rfl; (show nsIn (Mine.kk.heap_1 w.params) mainGlobals _ = _); k_dflt k_is
  case done => exact x_nil fun s' S => S.forget ⟨rfl, trivial⟩
  case rest => exact x_return (ev_name rfl) hQ
  case turn =>
    intro n dd hdd
    have hn : n < 12 := by have := (List.getElem?_eq_some_iff.mp hdd).1; simpa [nat] using this
    have hdd' : dd = .int ((n : Nat) : Int) := by
      unfold nat at hdd
      rw [List.getElem?_map, List.getElem?_range hn] at hdd; cases hdd; rfl
    subst hdd'
    refine ⟨_, as_name rfl (.inr ⟨rfl, rfl⟩), fun β₁ η' => ?_⟩
    refine' x_assign (d := .lst (nat (as.map (bitN · n)))) ?b0 ?b7 ?b8 ?b10 ?b9
    case b0 =>
      rw [← nat_map, ← filter_true as]
      refine' ev_compG [(Str.ofString "place", .int ((n : Nat) : Int))] as (fun a => Dat.int ((a : Nat) : Int)) (fun a => [(Str.ofString "answer", Dat.int ((a : Nat) : Int)), (Str.ofString "place", .int ((n : Nat) : Int))]) (fun _ => true) (fun a => Dat.int ((bitN a n : Nat) : Int)) ?b1 emb_nat ?b2 ?b3 ?b4 ?b5 ?b6 ?b11
      case b1 => rw [filter_true]; exact ei_list_nat (ev_name rfl)
      case b2 => exact compOk rfl (by decide +kernel) rfl ⟨⟨rfl, (fun h => nomatch h), .inl rfl, rfl⟩, trivial⟩ (cov_cons rfl cov_nil)
      case b3 => intro C a ha; exact ak_name rfl (.inl rfl)
      case b4 => intro C a ha; exact ts_nil
      case b5 =>
        intro C a ha _
        refine' EV.int (ev_and (ev_shr (ev_name rfl) (ev_name rfl) (by omega)) ev_int) ?_
        rw [shr_nat, and1N]; rfl
      case b6 => rw [filter_true, List.length_map]; omega
      case b11 => intro _ _; rfl
    case b7 => rfl
    case b8 => exact .inr ⟨rfl, rfl⟩
    case b9 => rfl
    case b10 =>
    refine' x_assign (d := .int ((tsrc as n : Nat) : Int)) ?c1 ?c2 ?c3 ?c4 ?c5
    case c1 =>
      have hs := tsrc_le as n
      refine' ev_call ?d1 (.cons ?d2 rfl .nil) (fs_sum_nat (l := (List.range 4).map fun j => (tb as (2 + j) n ^^^ tb as 0 n) * 2 ^ j) ?d3)
      case d1 => refine' GN.blt ?ga7 rfl (by decide) rfl; (show nsIn (Mine.kk.heap_1 w.params) mainGlobals _ = _); k_dflt k_is
      case d3 => exact Nat.lt_of_le_of_lt hs (by omega)
      case d2 =>
      refine' EV.to (d' := .lst (((List.range 4).filter fun _ => true).map fun j => Dat.int (((tb as (2 + j) n ^^^ tb as 0 n) * 2 ^ j : Nat) : Int))) ?d4 (by rw [filter_true, nat_map])
      refine' ev_comp1 [(Str.ofString "bits", .lst (nat (as.map (bitN · n))))] (List.range 4) (fun _ => true) (fun j => Dat.int (((tb as (2 + j) n ^^^ tb as 0 n) * 2 ^ j : Nat) : Int)) ?q1 ?q2 ?q3 ?q4 ?q5 ?q6 ?q7 ?q8
      case q1 =>
        refine' ei_range_nat (ev_call ?r1 (.cons ev_int rfl .nil) fs_range1) (by decide) (by decide)
        case r1 => refine' GN.typ ?ga8 rfl (by decide) rfl; (show nsIn (Mine.kk.heap_1 w.params) mainGlobals _ = _); k_dflt k_is
      case q2 => exact compOk rfl (by decide +kernel) rfl ⟨⟨rfl, (fun h => nomatch h), .inl rfl, rfl⟩, trivial⟩ (cov_cons rfl cov_nil)
      case q3 => rfl
      case q4 => rfl
      case q5 => intro C j hj; exact ts_nil
      case q6 =>
        intro C j hj _
        have hj' : j < 4 := by simpa using hj
        have hx := xor_lt2 (tb_lt as (2 + j) n) (tb_lt as 0 n)
        refine' EV.int (ev_shl (EV.int (ev_xor (ev_item (ev_name rfl) (ev_add ev_int (ev_name rfl)) (it_list (by omega) (by omega) (bits_at (i := 2 + j) (by omega) _ (by first | rfl | omega)))) (ev_item (ev_name rfl) ev_int (it_list (by omega) (by omega) (bits_at (i := 0) (by omega) _ (by first | rfl | omega))))) (bxor_nat _ _)) (ev_name rfl) (by omega) (by omega) (by omega)) (shl_nat _ _)
      case q7 => rw [filter_true, List.length_map, List.length_range]; omega
      case q8 => intro _ _; rfl
    case c2 => rfl
    case c3 => exact .inl rfl
    case c5 => rfl
    case c4 =>
    refine' x_assign (d := .int ((tb as 0 n ^^^ tb as 1 n : Nat) : Int)) ?e1 ?e2 ?e3 ?e4 ?e5
    case e1 => exact EV.int (ev_xor (ev_item (ev_name rfl) ev_int (it_list (by omega) (by omega) (bits_at (i := 0) (by omega) _ (by first | rfl | omega)))) (ev_item (ev_name rfl) ev_int (it_list (by omega) (by omega) (bits_at (i := 1) (by omega) _ (by first | rfl | omega))))) (bxor_nat _ _)
    case e2 => rfl
    case e3 => exact .inl rfl
    case e5 => rfl
    case e4 =>
    have ht := toldBit_lt as r n
    refine' x_iadd_int (a := ((toldTo as r n : Nat) : Int)) (b := ((toldBit as r n * 2 ^ n : Nat) : Int)) rfl ?f1 rfl (.inl rfl) ?f2
    case f1 =>
      refine' EV.int (ev_shl (a := ((toldBit as r n : Nat) : Int)) (EV.int (ev_xor (ev_item (ev_name rfl) ev_int (it_list (by omega) (by omega) (bits_at (i := 0) (by omega) _ (by first | rfl | omega)))) (ev_and (ev_name rfl) (ev_shr (ev_name rfl) (ev_name rfl) (by omega)))) ?_) (ev_name rfl) (by omega) (by omega) (by omega)) (shl_nat _ _)
      rw [shr_nat, band_nat, bxor_nat]; rfl
    case f2 =>
      refine' x_nil fun s' S => ?_
      have e : ((toldTo as r n : Nat) : Int) + ((toldBit as r n * 2 ^ n : Nat) : Int) = ((toldTo as r (n + 1) : Nat) : Int) := by rw [toldTo_succ]; push_cast; rfl
      rw [e] at S
      exact S.forget ⟨rfl, rfl, rfl, trivial⟩
end Mine


open PySem PySem.W PySem.W.X PyProof.Rows PySem.Calls PySem.Spec
set_option Elab.async false
namespace Mine
set_option maxRecDepth 100000
set_option maxHeartbeats 1000000
set_option linter.unusedVariables false
set_option pp.deepTerms false
set_option pp.maxSteps 1500
theorem warmk : ∀ w : World, (Mine.kk.heap_1 w.params, PySem.Challenge.rw_om0024_02.prog) = (Mine.kk.heap_1 w.params, PySem.Challenge.rw_om0024_02.prog) := by
  k_fill
  intro w; rfl

theorem f_octets {w p loose mean mg mb} {k : Nat} {figs : List Nat} {cnt pad : Nat} (hc4 : cnt ≤ 100) (hs : figs.length = (4 * cnt + 2) / 3) (hp : pad = (4 - figs.length % 4) % 4) (hf : ∀ x ∈ figs, x < 64)
    (hz : (octTo (figs ++ List.replicate pad 0) ((figs.length + pad) / 4)).drop cnt = List.replicate ((octTo (figs ++ List.replicate pad 0) ((figs.length + pad) / 4)).length - cnt) 0) :
    FS (c1 w p loose mean mg mb) (k + 4) (.ref 132) [.byt (bytesOf (lineOf figs pad)), .int cnt] (.lst (nat ((octTo (figs ++ List.replicate pad 0) ((figs.length + pad) / 4)).take cnt))) := by
  refine' fs_intro (ps := [Str.ofString "line", Str.ofString "count"]) ?ho ?hcd ?hb ?hl ?hps ?hk ?hnd ?h1 ?h2 ?h3 ?_
  case ho => (show (Mine.kk.heap_1 w.params).lookup 132 = _); k_dflt k_is
  case hcd => (show codeIn (Mine.kk.heap_1 w.params) _ _ = true); k_dflt k_is
  case hb => intro s vs h; match vs, h with | [a0, a1], _ => exact BindsTo.of_eq rfl
  case hl => rfl
  case h1 => rfl
  case h2 => rfl
  case h3 => rfl
  case hps => decide
  case hk => decide +kernel
  case hnd => decide +kernel
  intro L A β₀ h₀ s₀ Q hQ
  have hsl : figs.length ≤ 300 := by omega
  have hpadle : pad ≤ 3 := by omega
  have hll : (lineOf figs pad).length ≤ 10000 := by rw [line_len]; omega
  refine' x_assign (d := .byt alphaL.toArray) ?a1 ?a2 ?a3 ?a4 ?a5
  case a1 => exact ev_bytes
  case a2 => rfl
  case a3 => exact .inr ⟨rfl, rfl⟩
  case a5 => rfl
  case a4 =>
  refine' x_assign (d := .int (figs.length : Nat)) ?b1 ?b2 ?b3 ?b4 ?b5
  case b1 => exact EV.int (ev_fdiv (ev_add (ev_mul ev_int (ev_name rfl) (mul_ok (by decide))) ev_int) ev_int (by decide) (no_pylong (by decide))) (by rw [show (4 * (cnt : Int) + 2) = ((4 * cnt + 2 : Nat) : Int) by push_cast; rfl, show (3 : Int) = ((3 : Nat) : Int) from rfl, fdiv_nat, hs])
  case b2 => rfl
  case b3 => exact .inl rfl
  case b5 => rfl
  case b4 =>
  refine' x_if (b := false) ?c1 (fun h => nomatch h) (fun _ => x_seq ?c2)
  case c1 =>
    refine' ET.to (et_or (b := false) (b' := false) ?d1 fun _ => ET.to (et_or (b := false) (b' := false) ?d2 fun _ => et_or_nil) rfl) rfl
    case d1 =>
      refine' ET.to (et_cmp (ev_call ?d3 (.cons (ev_name rfl) rfl .nil) fs_type_bytes) (ev_typ (T := "bytes") ?d4 rfl (by decide) rfl) co_isnot_typ) (by decide)
      case d3 => refine' GN.typ ?ga6 rfl (by decide) rfl; (show nsIn (Mine.kk.heap_1 w.params) mainGlobals _ = _); k_dflt k_is
      case d4 => (show nsIn (Mine.kk.heap_1 w.params) mainGlobals _ = _); k_dflt k_is
    case d2 =>
      refine' ET.to (et_cmp (ev_item (ev_name rfl) (ev_slc_from (ev_name rfl)) (it_bytes_from hll)) (ev_rep_bytes (b := [61]) ev_bytes (ev_mod (ev_neg (ev_name rfl)) ev_int (by decide)) (by decide) ?d5 ?d6 (by decide)) co_neb) ?d7
      case d5 => have := Int.fmod_nonneg_of_pos (-(figs.length : Int)) (show (0 : Int) < 4 by omega); omega
      case d6 => have := Int.fmod_lt_of_pos (-(figs.length : Int)) (show (0 : Int) < 4 by omega); omega
      case d7 =>
        rw [line_drop, pad_ok, ← hp, pads_eq, bytesOf_eq, bne_self_eq_false]
  case c2 =>
  refine' x_assign (d := .dI ((List.range 64).map fun i => (((al i : Nat) : Int), Dat.int ((i : Nat) : Int)))) ?e1 ?e2 ?e3 ?e4 ?e5
  case e1 =>
    refine' ev_dcomp [(Str.ofString "alphabet", .byt alphaL.toArray)] (fun i => ((al i : Nat) : Int)) (fun i => ((i : Nat) : Int)) (ev_call ?f1 (.cons ev_int rfl .nil) fs_range1) (by decide) (by decide) ?f2 ?f3 ?f4 ?f5 ?f6 ?f7 ?f8 ?f9 ?f10 al_nodup (by decide) ?f11
    case f1 => refine' GN.typ ?ga7 rfl (by decide) rfl; (show nsIn (Mine.kk.heap_1 w.params) mainGlobals _ = _); k_dflt k_is
    case f2 => rfl
    case f3 => decide +kernel
    case f4 => rfl
    case f5 => decide +kernel
    case f6 => rfl
    case f7 => exact ⟨⟨rfl, (fun h => nomatch h), .inl rfl, rfl⟩, trivial⟩
    case f8 => rfl
    case f9 => intro C i hi; exact ev_item (ev_name rfl) (ev_name rfl) (it_bytes (x := alphaL.getD i 0) (by omega) (by rw [Int.toNat_natCast]; exact alphaL_at hi) (by decide))
    case f10 => intro C i hi; exact ev_name rfl
    case f11 => intro _; rfl
  case e2 => rfl
  case e3 => exact .inr ⟨rfl, rfl⟩
  case e5 => rfl
  case e4 =>
  refine' x_own_compG [(Str.ofString "table", .dI ((List.range 64).map fun i => (((al i : Nat) : Int), Dat.int ((i : Nat) : Int))))] (figs.map al) (fun n => Dat.int ((n : Nat) : Int)) (fun n => [(Str.ofString "sign", Dat.int ((n : Nat) : Int)), (Str.ofString "table", .dI ((List.range 64).map fun i => (((al i : Nat) : Int), Dat.int ((i : Nat) : Int))))]) (fun _ => true) (fun n => Dat.int ((unal n : Nat) : Int)) ?g1 emb_nat ?g2 ?g3 ?g4 ?g5 ?g6 ?gi ?gr ?g7 ?g8 ?g9 ?g10 ?g11
  case g1 =>
    have e := bytes_items ((lineOf figs pad).take figs.length) (fun x hx => line_lt figs pad x (List.mem_of_mem_take hx))
    rw [line_take] at e
    rw [show (figs.map al).map (fun n => Dat.int ((n : Nat) : Int)) = nat (figs.map al) from rfl, ← e, ← line_take figs pad]
    exact ei_bytes (ev_item (ev_name rfl) (ev_slc_to (ev_name rfl)) (it_bytes_upto hll))
  case g2 => exact compOk rfl (by decide +kernel) rfl ⟨⟨rfl, (fun h => nomatch h), .inl rfl, rfl⟩, trivial⟩ (cov_cons rfl cov_nil)
  case g3 => intro C a ha; exact ak_name rfl (.inl rfl)
  case g4 => intro C a ha; exact ts_nil
  case g5 =>
    intro C a ha _
    obtain ⟨f, hfm, rfl⟩ := List.mem_map.mp ha
    exact ev_meth (ev_name rfl) (.cons (ev_name rfl) rfl (.cons (ev_neg ev_int) rfl .nil)) (mc_get_hit (table_hit (hf f hfm)))
  case g6 => rw [filter_true, List.length_map, List.length_map]; omega
  case gi => exact imm_ints
  case gr => rfl
  case g7 => rfl
  case g8 => exact .inl rfl
  case g9 => rfl
  case g11 => intro _ _; rfl
  case g10 =>
  rw [filter_true, nat_map, figs_back figs hf]
  refine' x_if (b := false) ?h1 (fun h => nomatch h) (fun _ => x_seq ?h2)
  case h1 =>
    refine' ET.to (et_or (b := false) (b' := false) (et_cmp (ev_neg ev_int) (ev_name rfl) co_in_neg) fun _ => ET.to (et_or (b := false) (b' := false) (ET.to (et_cmp (ev_call ?h3 (.cons (ev_name rfl) rfl .nil) (fs_len_list (by rw [nat_len]; omega))) (ev_name rfl) co_ne) ?h4) fun _ => et_or_nil) rfl) rfl
    case h3 => refine' GN.blt ?ga8 rfl (by decide) rfl; (show nsIn (Mine.kk.heap_1 w.params) mainGlobals _ = _); k_dflt k_is
    case h4 => rw [nat_len, bne_self_eq_false]
  case h2 =>
  refine' x_iadd_list (i := 0) (es := nat (List.replicate pad 0)) ?i1 ?i2 imm_nat ?i3 ?i4 ?i5 ?i6 ?i7
  case i1 => rfl
  case i2 =>
    refine' EV.to (ev_rep_list (d := .int ((0 : Nat) : Int)) (ev_list (.cons ev_int rfl .nil) (Nat.le_of_ble_eq_true rfl)) (ev_mod (ev_neg (ev_name rfl)) ev_int (by decide)) ?_ ?_) ?_
    · exact Int.fmod_nonneg_of_pos _ (by omega)
    · have := Int.fmod_lt_of_pos (-(figs.length : Int)) (show (0 : Int) < 4 by omega); omega
    · rw [pad_ok, ← hp, nat_rep]
  case i3 => rw [nat_len, nat_len, List.length_replicate]; omega
  case i4 => exact .inl rfl
  case i5 => rfl
  case i6 =>
    intro j d hj
    match j, hj with
    | 0, _ => rfl
  case i7 =>
  rw [nat_app]
  have hg : 4 * ((figs.length + pad) / 4) = figs.length + pad := by omega
  have hll2 : (figs ++ List.replicate pad 0).length = 4 * ((figs.length + pad) / 4) := by rw [List.length_append, List.length_replicate]; omega
  have hf2 : ∀ x ∈ figs ++ List.replicate pad 0, x < 64 := fun x hx => by
    rcases List.mem_append.mp hx with q | q
    · exact hf x q
    · rw [(List.mem_replicate.mp q).2]; decide
  generalize hgg : (figs.length + pad) / 4 = g at hg hll2 hz hQ
  have hgle : g ≤ 100 := by omega
  generalize figs ++ List.replicate pad 0 = fl at hll2 hf2 hz hQ
  refine' x_freeze ?j0
  refine' x_own (ds := []) (ef_list .nil (by decide) (fun d hd => nomatch hd)) rfl rfl (.inl rfl) ?j1 rfl
  refine' x_for (ds := (List.range g).map fun (i : Nat) => Dat.int (0 + (i : Int) * 4)) (fun _ => [(Str.ofString "figures", .lst (nat fl)), (Str.ofString "count", .int ((cnt : Nat) : Int))]) (fun i => [(Str.ofString "octets", .lst (nat (octTo fl i)))]) [(Str.ofString "count", .int ((cnt : Nat) : Int))] [(Str.ofString "octets", .lst (nat (octTo fl g)))] ?ei (Fg.at ⟨rfl, rfl, trivial⟩) rfl ?turn ?done ?rest ?fold
  case fold => intro _; rfl
  case ei =>
    refine' ei_range (ev_call ?k1 (.cons ev_int rfl (.cons (EV.int (ev_call ?k2 (.cons (ev_name rfl) rfl .nil) (fs_len_list (by rw [nat_len]; omega))) (by rw [nat_len, hll2])) rfl (.cons ev_int rfl .nil))) (fs_range3 (by decide) (no_pylong (by decide)))) (rng4_small (by omega)) (rng4_size g)
    case k1 => refine' GN.typ ?ga9 rfl (by decide) rfl; (show nsIn (Mine.kk.heap_1 w.params) mainGlobals _ = _); k_dflt k_is
    case k2 => refine' GN.blt ?ga10 rfl (by decide) rfl; (show nsIn (Mine.kk.heap_1 w.params) mainGlobals _ = _); k_dflt k_is
  case done =>
    rw [List.length_map, List.length_range]
    exact x_nil fun s' S => S.forget ⟨rfl, trivial⟩
  case turn =>
    intro n dd hdd
    have hn : n < g := by have := (List.getElem?_eq_some_iff.mp hdd).1; simpa using this
    have hdd' : dd = .int ((4 * n : Nat) : Int) := by
      rw [List.getElem?_map, List.getElem?_range hn] at hdd; cases hdd
      show Dat.int _ = _
      rw [show (0 : Int) + (n : Int) * 4 = ((4 * n : Nat) : Int) by omega]
    subst hdd'
    have hq := quad_len (l := fl) (j := n) (by omega)
    have hql := quad_lt hf2 n
    have hol := octTo_len fl n
    refine ⟨_, as_name rfl (.inl rfl), fun β₁ η' => ?_⟩
    refine' x_assign (d := .int ((val64 (quad fl n) : Nat) : Int)) ?l1 ?l2 ?l3 ?l4 ?l5
    case l1 =>
      refine' ev_draw_iter (ds := nat (tapeOf (quad fl n))) (j' := 4) ?m1 ?m2 ?m3 ?m4 ?m5 ?m6 ?m7 ?m8
      case m1 => refine' GN.own ?ga11 ?gb11 ?gc11 ?gd11; (case ga11 => (show nsIn (Mine.kk.heap_1 w.params) mainGlobals _ = _); k_dflt k_is); (case gb11 => (show (Mine.kk.heap_1 w.params).lookup 66 = _); k_dflt k_is); (case gc11 => rfl); (case gd11 => rfl)
      case m2 => refine' GN.blt ?ga12 rfl (by decide) rfl; (show nsIn (Mine.kk.heap_1 w.params) mainGlobals _ = _); k_dflt k_is
      case m4 =>
        have e := f_varint (w := w) (p := p) (loose := loose) (mean := mean) (mg := mg) (mb := mb) (k := k + 2) (ns := tapeOf (quad fl n)) (j := 0) (m := 3) (by rw [tape_len]; omega) (by omega) (fun i hi => by rw [Nat.zero_add, tape_bit _ hql i (by omega)]; simp; omega) (by rw [Nat.zero_add, tape_bit _ hql _ (by omega)]; simp; omega)
        rw [tape_val _ hql _ (by omega), show 3 + 1 = (quad fl n).length by omega, List.take_length] at e
        rw [hq] at e
        exact e
      case m5 => rfl
      case m6 => decide
      case m7 => decide
      case m8 => rfl
      case m3 =>
        have e : tapeOf (quad fl n) = ((fl.drop (4 * n)).take 3).map (· + 64) ++ (fl.drop (4 * n + 3)).take 1 := by
          unfold tapeOf; rw [hq, quad_front, quad_back]
        rw [e, ← nat_app]
        refine' ev_cat ?n1 ?n2 ?n3
        case n3 => rw [nat_len, nat_len, List.length_map, List.length_take, List.length_take]; omega
        case n2 =>
          refine' ev_item (ev_name rfl) (ev_slc_run (ev_add (ev_name rfl) ev_int) (ev_add (ev_name rfl) ev_int)) ?_
          have e2 := it_run_nat (c := (c1 w p loose mean mg mb)) (k := k + 3) (l := fl) (i := 4 * n + 3) (j := 4 * n + 4) (a := ((4 * n : Nat) : Int) + 3) (b := ((4 * n : Nat) : Int) + 4) (by omega) (by omega) (by omega) (by omega) (by omega)
          rw [show 4 * n + 4 - (4 * n + 3) = 1 by omega] at e2
          exact e2
        case n1 =>
          refine' EV.to (d' := .lst ((((fl.drop (4 * n)).take 3).filter fun _ => true).map fun f => Dat.int ((f + 64 : Nat) : Int))) ?o0 (by rw [filter_true, nat_map])
          refine' ev_comp1 [] ((fl.drop (4 * n)).take 3) (fun _ => true) (fun f => Dat.int ((f + 64 : Nat) : Int)) ?o1 ?o2 ?o3 ?o4 ?o5 ?o6 ?o7 ?o8
          case o1 =>
            have e2 := it_run_nat (c := (c1 w p loose mean mg mb)) (k := k + 3) (l := fl) (i := 4 * n) (j := 4 * n + 3) (a := ((4 * n : Nat) : Int)) (b := ((4 * n : Nat) : Int) + 3) (by omega) (by omega) (by omega) (by omega) (by omega)
            rw [show 4 * n + 3 - 4 * n = 3 by omega] at e2
            exact ei_list_nat (ev_item (ev_name rfl) (ev_slc_run (ev_name rfl) (ev_add (ev_name rfl) ev_int)) e2)
          case o2 => exact compOk rfl (by decide +kernel) rfl trivial cov_nil
          case o3 => rfl
          case o4 => rfl
          case o5 => intro C f hf; exact ts_nil
          case o6 => intro C f hf _; exact EV.int (ev_add (ev_name rfl) ev_int) (by push_cast; rfl)
          case o7 => rw [filter_true, List.length_map, List.length_take]; omega
          case o8 => intro _ _; rfl
    case l2 => rfl
    case l3 => exact .inl rfl
    case l5 => rfl
    case l4 =>
    refine' x_iadd_list (i := 0) (es := nat (trip (val64 (quad fl n)))) ?p1 ?p2 imm_nat ?p3 ?p4 ?p5 ?p6 ?p7
    case p1 => rfl
    case p2 =>
      refine' ev_list (.cons (EV.int (ev_shr (ev_name rfl) ev_int (by decide)) (shr_lit _ 16 16 rfl)) rfl (.cons (EV.int (ev_and (EV.int (ev_shr (ev_name rfl) ev_int (by decide)) (shr_lit _ 8 8 rfl)) ev_int) (and255 _)) rfl (.cons (EV.int (ev_and (ev_name rfl) ev_int) (and255 _)) rfl .nil))) (Nat.le_of_ble_eq_true rfl)
    case p3 => rw [nat_len, nat_len, hol]; unfold trip; simp; omega
    case p4 => exact .inl rfl
    case p5 => rfl
    case p6 =>
      intro j d hj
      match j, hj with
      | 0, _ => rfl
    case p7 =>
    rw [nat_app, ← octTo_succ]
    exact x_nil fun s' S => S.forget ⟨rfl, rfl, trivial⟩
  case rest =>
    have hol := octTo_len fl g
    generalize octTo fl g = oc at hol hz hQ
    refine' x_return ?q1 hQ
    refine' ev_ifexp (b := true) (ET.to (et_cmp (ev_item (ev_name rfl) (ev_slc_from (ev_name rfl)) (it_from_nat rfl (by omega))) (EV.to (ev_rep_list (d := .int ((0 : Nat) : Int)) (n := (((oc.length - cnt : Nat)) : Int)) (ev_list (.cons ev_int rfl .nil) (Nat.le_of_ble_eq_true rfl)) (EV.int (ev_sub (ev_call ?r1 (.cons (ev_name rfl) rfl .nil) (fs_len_list (by rw [nat_len]; omega))) (ev_name rfl)) ?r2) (by omega) (by omega)) (congrArg Dat.lst (nat_rep _ _))) (co_eq_nat (k := k))) ?r3) (fun _ => ?r4) (fun h => nomatch h)
    case r1 => refine' GN.blt ?ga13 rfl (by decide) rfl; (show nsIn (Mine.kk.heap_1 w.params) mainGlobals _ = _); k_dflt k_is
    case r2 =>
      rw [nat_len]
      omega
    case r3 => rw [Int.toNat_natCast, hz]; exact decide_eq_true rfl
    case r4 => exact ev_item (ev_name rfl) (ev_slc_to (ev_name rfl)) (it_upto_nat rfl (by omega))
end Mine


open PySem PySem.W PySem.W.X PyProof.Rows PySem.Calls PySem.Spec
set_option Elab.async false
namespace Mine
set_option maxRecDepth 100000
set_option maxHeartbeats 1000000
set_option linter.unusedVariables false
set_option pp.deepTerms false
set_option pp.maxSteps 1500
theorem warml : ∀ w : World, (Mine.kk.heap_1 w.params, PySem.Challenge.rw_om0024_02.prog) = (Mine.kk.heap_1 w.params, PySem.Challenge.rw_om0024_02.prog) := by
  k_fill
  intro w; rfl

theorem deeds_fv {w p loose mean mg mb} {k : Nat} {due : List Nat} (hl : due.length ≤ 100) (hd : ∀ d ∈ due, d < 16384) : ∀ i, i < due.length → FV (c1 w p loose mean mg mb) (k + 1) (.ref 66) (nat (due.flatMap digs)) (posAt due i) (posAt due (i + 1)) ((due.getD i 0 : Nat) : Int) := by
  intro i hi
  have hdi : due.getD i 0 < 16384 := hd _ (by rw [List.getD_eq_getElem?_getD, List.getElem?_eq_getElem hi]; exact List.getElem_mem hi)
  have hn := figN_le (due.getD i 0)
  have hlen : posAt due i + figN (due.getD i 0) < (due.flatMap digs).length := by
    have h1 := posAt_succ due i hi
    have h2 : posAt due (i + 1) ≤ (due.flatMap digs).length := by
      unfold posAt
      conv => rhs; rw [← List.take_append_drop (i + 1) due]
      rw [List.flatMap_append, List.length_append]; omega
    omega
  have hdl : (digs (due.getD i 0)).length = figN (due.getD i 0) + 1 := by unfold digs; rw [List.length_cons, List.length_drop, figF_len]; omega
  have hat : ∀ j, j ≤ figN (due.getD i 0) → (due.flatMap digs).getD (posAt due i + j) 0 = (digs (due.getD i 0)).getD j 0 := fun j hj => flat_at due i j hi (by omega)
  have e := f_varint (w := w) (p := p) (loose := loose) (mean := mean) (mg := mg) (mb := mb) (k := k) (ns := due.flatMap digs) (j := posAt due i) (m := figN (due.getD i 0)) hlen (by omega) (fun j hj => by rw [hat j (by omega), (dig_at _ _ (by omega)).2]; simpa using hj) (by rw [hat _ (Nat.le_refl _), (dig_at _ _ (Nat.le_refl _)).2]; simp)
  rw [vval_dig (due.flatMap digs) (posAt due i) (due.getD i 0) (figN_stop hdi) (fun j hj => by rw [hat j hj]; exact (dig_at _ _ hj).1) _ (Nat.le_refl _), Nat.sub_self, Nat.pow_zero, Nat.div_one, ← posAt_succ due i hi] at e
  exact e
theorem num_emb (l : List Int) (i : Nat) (h : i < l.length) : (l.map Dat.int)[i]? = some (.int (l.getD i 0)) := by
  rw [List.getElem?_map, List.getElem?_eq_getElem h, List.getD_eq_getElem?_getD, List.getElem?_eq_getElem h]; rfl
theorem due_back (due : List Nat) : (List.range due.length).map (fun q => Dat.int ((due.getD q 0 : Nat) : Int)) = nat due := by
  rw [nat_map]
  congr 1
  apply List.ext_getElem?
  intro i
  rw [List.getElem?_map]
  by_cases h : i < due.length
  · rw [List.getElem?_range h, List.getElem?_eq_getElem h, Option.map_some, List.getD_eq_getElem?_getD, List.getElem?_eq_getElem h]; rfl
  · rw [List.getElem?_eq_none (by simp; omega), List.getElem?_eq_none (by omega)]; rfl
theorem answ_succ (m : Nat) (due : List Nat) (i p : Nat) (h : probes[i]? = some p) : (answ m due).take (i + 1) = (answ m due).take i ++ [runF (kindOf2 m + p) due % 4096] := by
  unfold answ
  rw [List.take_add_one, List.getElem?_map, h]; rfl
theorem probe_lt : ∀ p ∈ probes, p < 4096 := by decide
theorem f_law {w p loose mean mg mb} {k : Nat} {ns : List Int} (hns : ns.length ≤ 1000) (H : Plain2 ns) (F : ∀ x, x < 65536 → FmOk x) : FS (c1 w p loose mean mg mb) (k + 5) (.ref 161) [.lst (ns.map Dat.int)] (.bool true) := by
  refine' fs_intro (ps := [Str.ofString "script"]) ?ho ?hcd ?hb ?hl ?hps ?hk ?hnd ?h1 ?h2 ?h3 ?_
  case ho => (show (Mine.kk.heap_1 w.params).lookup 161 = _); k_dflt k_is
  case hcd => (show codeIn (Mine.kk.heap_1 w.params) _ _ = true); k_dflt k_is
  case hb => intro s vs h; match vs, h with | [a0], _ => exact BindsTo.of_eq rfl
  case hl => rfl
  case h1 => rfl
  case h2 => rfl
  case h3 => rfl
  case hps => decide
  case hk => decide +kernel
  case hnd => decide +kernel
  intro L A β₀ h₀ s₀ Q hQ
  have hm := mode_lt ns
  have hpos := nums_pos ns
  have hnl := nums_len ns
  have hdl := due_len ns
  have hdlt := due_lt ns
  have hol := oc_len ns
  have holt := oc_lt ns
  obtain ⟨⟨figs, pad, l1, l2, l3, l4, l5, l6⟩, hrun, htold⟩ := H
  refine' x_assign (d := .lst ((nums ns).map Dat.int)) ?a1 ?a2 ?a3 ?a4 ?a5
  case a1 =>
    have e : (nums ns).map Dat.int = ((if ns = [] then [33261, 294, 15, 72, 10241] else ns).map Dat.int).take (7 : Int).toNat := by unfold nums; rw [List.map_take]; rfl
    rw [e]
    refine' ev_item (ev_or2 (d₁ := .lst (ns.map Dat.int)) (d₂ := .none) (b := decide (ns.map Dat.int ≠ [])) (ev_name rfl) (tr_list (by rw [List.length_map]; omega)) ?b1 ?b2) (ev_slc_to ev_int) (it_upto ?b3 (by decide))
    case b1 =>
      intro h
      have : ns ≠ [] := fun q => by rw [q] at h; simp at h
      rw [if_neg this]
    case b2 =>
      intro h
      have : ns = [] := by simpa using h
      rw [if_pos this]
      exact ev_list (el_int (el_int (el_int (el_int (el_int .nil))))) (Nat.le_of_ble_eq_true rfl)
    case b3 =>
      rw [List.length_map]
      split
      · decide
      · omega
  case a2 => rfl
  case a3 => exact .inl rfl
  case a5 => rfl
  case a4 =>
  refine' x_unpack_swap [Str.ofString "mode", Str.ofString "due"] (d := .tup [.int ((modeOf ns : Nat) : Int), .lst (nat (dueOf ns))]) ?c1 is_tup ?c2 rfl ?c3 ?c4 ?c5
  case c4 => rfl
  case c5 => rfl
  case c1 =>
    refine' ev_tuple (.cons (EV.int (ev_mod (ev_item (ev_name rfl) ev_int (it_list (by decide) (by decide) (num_emb (nums ns) 0 hpos))) ev_int (by decide)) ?d1) rfl (.cons ?d2 rfl .nil)) (by simp)
    case d1 => exact (fmod_toNat _ 65536 (by omega)).symm
    case d2 =>
      refine' EV.to (d' := .lst ((((nums ns).drop 1).filter fun _ => true).map fun n => Dat.int (((n.fmod 16384).toNat : Nat) : Int))) ?d3 ?d4
      case d4 => rw [filter_true]; unfold dueOf; rw [← nat_map]
      case d3 =>
      refine' ev_compG [] ((nums ns).drop 1) Dat.int (fun n => [(Str.ofString "n", Dat.int n)]) (fun _ => true) (fun n => Dat.int (((n.fmod 16384).toNat : Nat) : Int)) ?e1 emb_int ?e2 ?e3 ?e4 ?e5 ?e6 ?e7
      case e1 =>
        rw [List.map_drop]
        exact ei_list (ev_item (ev_name rfl) (ev_slc_from ev_int) (it_from (by rw [List.length_map]; omega) (by decide)))
      case e2 => exact compOk rfl (by decide +kernel) rfl trivial cov_nil
      case e3 => intro C a ha; exact ak_name rfl (.inl rfl)
      case e4 => intro C a ha; exact ts_nil
      case e5 => intro C a ha _; exact EV.int (ev_mod (ev_name rfl) ev_int (by decide)) (fmod_toNat _ 16384 (by omega)).symm
      case e6 => rw [filter_true, List.length_map, List.length_drop]; omega
      case e7 => intro _ _; rfl
  case c2 =>
    intro y hy
    simp only [List.mem_cons, List.mem_nil_iff, or_false] at hy
    rcases hy with rfl | rfl <;> exact ⟨.inl rfl, rfl⟩
  case c3 =>
  refine' x_assign_comp2 [] (dueOf ns) digs ?f1 ?f2 ?f3 ?f4 ?f5 ?f6 ?f7 ?f8 ?f9 ?f10 ?f11 ?f12 ?f13 ?f14 ?f15
  case f1 => exact ei_list_nat (ev_name rfl)
  case f2 => exact compOk rfl (by decide +kernel) rfl trivial cov_nil
  case f3 => rfl
  case f4 => rfl
  case f5 => rfl
  case f6 => intro n; rfl
  case f7 =>
    intro C n hn
    refine' ei_list_nat (ev_call ?g1 (.cons (ev_name rfl) rfl .nil) (f_digits (hdlt n hn)))
    case g1 => refine' GN.own ?ga6 ?gb6 ?gc6 ?gd6; (case ga6 => (show nsIn (Mine.kk.heap_1 w.params) mainGlobals _ = _); k_dflt k_is); (case gb6 => (show (Mine.kk.heap_1 w.params).lookup 127 = _); k_dflt k_is); (case gc6 => rfl); (case gd6 => rfl)
  case f8 => intro C n m hn hm; exact ev_name rfl
  case f9 => show (ocOf ns).length ≤ _; omega
  case f10 => intro _ _; rfl
  case f11 => intro _ _; rfl
  case f12 => rfl
  case f13 => exact .inl rfl
  case f14 => rfl
  case f15 =>
  rw [show (dueOf ns).flatMap digs = ocOf ns from rfl]
  refine' x_assign (d := .lst (nat (ocOf ns))) ?h1 ?h2 ?h3 ?h4 ?h5
  case h1 =>
    have ef := f_octets (w := w) (p := p) (loose := loose) (mean := mean) (mg := mg) (mb := mb) (k := k) (figs := figs) (cnt := (ocOf ns).length) (pad := pad) (by omega) l2 l3 l4 l5
    rw [l6, ← l1] at ef
    refine' ev_call ?i1 (.cons (d := .byt (bytesOf (b64 (ocOf ns)))) ?i2 rfl (.cons ?i3 rfl .nil)) ef
    case i1 => refine' GN.own ?ga7 ?gb7 ?gc7 ?gd7; (case ga7 => (show nsIn (Mine.kk.heap_1 w.params) mainGlobals _ = _); k_dflt k_is); (case gb7 => (show (Mine.kk.heap_1 w.params).lookup 132 = _); k_dflt k_is); (case gc7 => rfl); (case gd7 => rfl)
    case i2 =>
      have eb := f_b64 (w := w) (p := p) (loose := loose) (mean := mean) (mg := mg) (mb := mb) (k := k + 1) (b := bytesOf (ocOf ns)) (by rw [size_bytes]; omega)
      rw [octs_bytes _ holt] at eb
      refine' ev_call ?j1 (.cons (ev_call ?j2 (.cons (ev_name rfl) rfl .nil) (fs_bytes_nat holt (by omega))) rfl .nil) eb
      case j1 => refine' GN.own ?ga8 ?gb8 ?gc8 ?gd8; (case ga8 => (show nsIn (Mine.kk.heap_1 w.params) mainGlobals _ = _); k_dflt k_is); (case gb8 => (show (Mine.kk.heap_1 w.params).lookup 51 = _); k_dflt k_is); (case gc8 => rfl); (case gd8 => rfl)
      case j2 => refine' GN.typ ?ga9 rfl (by decide) rfl; (show nsIn (Mine.kk.heap_1 w.params) mainGlobals _ = _); k_dflt k_is
    case i3 =>
      refine' EV.int (ev_call ?j3 (.cons (ev_name rfl) rfl .nil) (fs_len_list (by rw [nat_len]; omega))) (by rw [nat_len])
      case j3 => refine' GN.blt ?ga10 rfl (by decide) rfl; (show nsIn (Mine.kk.heap_1 w.params) mainGlobals _ = _); k_dflt k_is
  case h2 => rfl
  case h3 => exact .inl rfl
  case h5 => rfl
  case h4 =>
  refine' x_if (b := false) (ET.to (et_cmp (ev_name rfl) (ev_name rfl) (co_ne_nat (k := k + 1))) (by simp)) (fun h => nomatch h) (fun _ => x_seq ?k1)
  refine' x_iter (ds := nat (ocOf ns)) ?l1' (ev_name rfl) ?l3' ?l4' ?l5' ?l6' ?l7' ?l8'
  case l1' => refine' GN.blt ?ga11 rfl (by decide) rfl; (show nsIn (Mine.kk.heap_1 w.params) mainGlobals _ = _); k_dflt k_is
  case l3' => rfl
  case l4' => exact .inr ⟨rfl, rfl⟩
  case l6' => rfl
  case l7' => decide
  case l8' => rfl
  case l5' =>
  intro β₁ a LL vs n hnx hL hr
  refine' x_draw_comp (js := posAt (dueOf ns)) (rs := fun q => (((dueOf ns).getD q 0 : Nat) : Int)) (ds := nat (dueOf ns)) [(Str.ofString "tape", .kref a)] ?m1 ?m2 ?m3 ?m4 ?m5 ?m6 hL hr ?m7 ?m8 ?m9 ?m10 ?m11 ?m12 ?m13 ?m14 ?m15 ?m16
  case m1 => exact ei_list_nat (ev_name rfl)
  case m2 => exact compOk rfl (by decide +kernel) rfl ⟨⟨rfl, (fun h => nomatch h), .inl rfl, rfl⟩, trivial⟩ (cov_cons rfl cov_nil)
  case m3 => rfl
  case m4 => rfl
  case m5 => rfl
  case m6 => intro C; refine' GN.own ?ga12 ?gb12 ?gc12 ?gd12; (case ga12 => (show nsIn (Mine.kk.heap_1 w.params) mainGlobals _ = _); k_dflt k_is); (case gb12 => (show (Mine.kk.heap_1 w.params).lookup 66 = _); k_dflt k_is); (case gc12 => rfl); (case gd12 => rfl)
  case m7 => rw [nat_len]; exact deeds_fv (by omega) hdlt
  case m8 => rw [nat_len]; omega
  case m9 => rfl
  case m10 => exact .inl rfl
  case m11 => rfl
  case m12 => intro _ _; rfl
  case m14 => decide
  case m15 => decide
  case m16 => decide
  case m13 =>
  rw [nat_len, due_back, posAt_end]
  refine' x_unpack_swap [Str.ofString "kind", Str.ofString "rights"] (d := .tup [.int ((kindOf2 (modeOf ns) : Nat) : Int), .int ((modeOf ns % 4096 : Nat) : Int)]) ?n1 is_tup ?n2 rfl ?n3 ?n4 ?n5
  case n4 => rfl
  case n5 => rfl
  case n1 =>
    refine' ev_tuple (.cons (EV.int (ev_call ?o1 (.cons (ev_name rfl) rfl .nil) f_ifmt) (and_kind _ hm)) rfl (.cons (EV.int (ev_call ?o2 (.cons (ev_name rfl) rfl .nil) f_imode) (and_rights _)) rfl .nil)) (by simp)
    case o1 => refine' GN.own ?ga13 ?gb13 ?gc13 ?gd13; (case ga13 => (show nsIn (Mine.kk.heap_1 w.params) mainGlobals _ = _); k_dflt k_is); (case gb13 => (show (Mine.kk.heap_1 w.params).lookup 80 = _); k_dflt k_is); (case gc13 => rfl); (case gd13 => rfl)
    case o2 => refine' GN.own ?ga14 ?gb14 ?gc14 ?gd14; (case ga14 => (show nsIn (Mine.kk.heap_1 w.params) mainGlobals _ = _); k_dflt k_is); (case gb14 => (show (Mine.kk.heap_1 w.params).lookup 73 = _); k_dflt k_is); (case gc14 => rfl); (case gd14 => rfl)
  case n2 =>
    intro y hy
    simp only [List.mem_cons, List.mem_nil_iff, or_false] at hy
    rcases hy with rfl | rfl <;> exact ⟨.inl rfl, rfl⟩
  case n3 =>
  refine' x_if_tx (η' := []) ?p1 (x_seq ?p2)
  case p1 =>
    refine' tx_or (tx_et (ET.to (et_cmp (ev_name rfl) (ev_name rfl) (co_ne_nat (k := k + 1))) (by simp))) (tx_or (tx_drained (k := k + 1) ?q1 rfl hL hr (by rw [nat_len]; rfl)) (tx_et (ET.to (et_or (b := false) (b' := false) (ET.to (et_cmp (ev_add (ev_name rfl) (ev_name rfl)) (ev_name rfl) co_ne) ?q2) fun _ => et_or_nil) rfl)))
    case q1 => refine' GN.typ ?ga15 rfl (by decide) rfl; (show nsIn (Mine.kk.heap_1 w.params) mainGlobals _ = _); k_dflt k_is
    case q2 =>
      have : ((kindOf2 (modeOf ns) : Nat) : Int) + ((modeOf ns % 4096 : Nat) : Int) = ((modeOf ns : Nat) : Int) := by unfold kindOf2; omega
      rw [this, bne_self_eq_false]
  case p2 =>
  refine' x_unpack_own (d := .str (one (signC (modeOf ns / 4096)))) (x := Str.ofString "sign") (y := Str.ofString "answers") (px := ⟨0, 0, 0, 0⟩) (py := ⟨0, 0, 0, 0⟩) ?r1 rfl (.inl rfl) (.inl rfl) rfl rfl rfl (by decide) ?r2 ?r3 ?r4
  case r3 => rfl
  case r4 => rfl
  case r1 =>
    refine' ev_item ev_str (EV.int (ev_fdiv (ev_name rfl) ev_int (by decide) (no_pylong (by decide))) ?_) (it_str (by omega) (by omega) (signC_at _ (by omega)))
    rw [fdivL (kindOf2 (modeOf ns)) 4096 4096 rfl]
    unfold kindOf2
    rw [Nat.mul_div_cancel _ (by omega)]
  case r2 =>
  generalize hmm : modeOf ns = m at hm htold
  generalize hdd : dueOf ns = due at hdl hdlt hrun htold
  have hko : ∀ x, x < 4096 → kindOf2 m + x < 65536 := fun x hx => by unfold kindOf2; omega
  have hkd : ∀ x, x < 4096 → (kindOf2 m + x) / 4096 = m / 4096 := fun x hx => by unfold kindOf2; omega
  refine' x_for (ds := nat probes) (fun _ => [(Str.ofString "mode", .int ((m : Nat) : Int)), (Str.ofString "deeds", .lst (nat due)), (Str.ofString "kind", .int ((kindOf2 m : Nat) : Int)), (Str.ofString "rights", .int ((m % 4096 : Nat) : Int)), (Str.ofString "sign", .str (one (signC (m / 4096))))]) (fun i => [(Str.ofString "answers", .lst (nat ((answ m due).take i)))])
    [(Str.ofString "mode", .int ((m : Nat) : Int)), (Str.ofString "deeds", .lst (nat due)), (Str.ofString "rights", .int ((m % 4096 : Nat) : Int)), (Str.ofString "sign", .str (one (signC (m / 4096))))] [(Str.ofString "answers", .lst (nat (answ m due)))] ?ei (Fg.at ⟨rfl, rfl, rfl, rfl, rfl, trivial⟩) rfl ?turn ?done ?rest ?fold
  case fold => intro _; rfl
  case ei => exact ei_list_nat (ev_list (el_int (el_int (el_int (el_int (el_int (el_int .nil)))))) (Nat.le_of_ble_eq_true rfl))
  case done => exact x_nil fun s' S => S.forget ⟨rfl, rfl, rfl, rfl, trivial⟩
  case turn =>
    intro i dd hd
    unfold nat at hd
    rw [List.getElem?_map, Option.map_eq_some_iff] at hd
    obtain ⟨pr, hp, rfl⟩ := hd
    have hp4 := probe_lt pr (List.mem_of_getElem? hp)
    obtain ⟨hr1, hr2⟩ := hrun (kindOf2 m + pr) (hko pr hp4)
    rw [hkd pr hp4] at hr2
    have hal : ((answ m due).take i).length ≤ 6 := by rw [List.length_take]; unfold answ probes; simp; omega
    rw [answ_succ m due i pr hp]
    refine ⟨_, as_name rfl (.inl rfl), fun β₂ η' => ?_⟩
    refine' x_assign (d := .int ((runF (kindOf2 m + pr) due : Nat) : Int)) ?s1 ?s2 ?s3 ?s4 ?s5
    case s1 =>
      refine' ev_call ?t1 (.cons (EV.int (ev_add (ev_name rfl) (ev_name rfl)) (by push_cast; rfl)) rfl (.cons (ev_name rfl) rfl .nil)) (f_run (m := kindOf2 m + pr) (ds := due))
      case t1 => refine' GN.own ?ga16 ?gb16 ?gc16 ?gd16; (case ga16 => (show nsIn (Mine.kk.heap_1 w.params) mainGlobals _ = _); k_dflt k_is); (case gb16 => (show (Mine.kk.heap_1 w.params).lookup 139 = _); k_dflt k_is); (case gc16 => rfl); (case gd16 => rfl)
    case s2 => rfl
    case s3 => exact .inl rfl
    case s5 => rfl
    case s4 =>
    generalize runF (kindOf2 m + pr) due = last at hr1 hr2
    obtain ⟨f1, f2, f3⟩ := F last hr1
    rw [hr2] at f2
    refine' x_assign (d := .str (fm ((last : Nat) : Int))) ?u1 ?u2 ?u3 ?u4 ?u5
    case u1 =>
      refine' ev_call ?t2 (.cons (ev_name rfl) rfl .nil) f_filemode
      case t2 => refine' GN.own ?ga17 ?gb17 ?gc17 ?gd17; (case ga17 => (show nsIn (Mine.kk.heap_1 w.params) mainGlobals _ = _); k_dflt k_is); (case gb17 => (show (Mine.kk.heap_1 w.params).lookup 120 = _); k_dflt k_is); (case gc17 => rfl); (case gd17 => rfl)
    case u2 => rfl
    case u3 => exact .inl rfl
    case u5 => rfl
    case u4 =>
    generalize fm ((last : Nat) : Int) = sh at f1 f2 f3
    have h0 : sh.cps[(0 : Int).toNat]? = some (signC (m / 4096)) := by
      rw [← f2]
      show sh.cps[0]? = _
      rw [Array.getElem?_eq_getElem (by omega), Array.getD_eq_getD_getElem?, Array.getElem?_eq_getElem (by omega)]; rfl
    refine' x_if (b := false) ?v1 (fun h => nomatch h) (fun _ => x_seq ?v2)
    case v1 =>
      refine' ET.to (et_or (b := false) (b' := false) (ET.to (et_cmp (ev_call ?t3 (.cons (ev_name rfl) rfl .nil) (fs_len_str (by show sh.cps.size ≤ _; omega))) ev_int co_ne) ?w1) fun _ => ET.to (et_or (b := false) (b' := false) (ET.to (et_cmp (ev_item (ev_name rfl) ev_int (it_str (by decide) (by decide) h0)) (ev_name rfl) co_nes) ?w2) fun _ => et_or_nil) rfl) rfl
      case t3 => refine' GN.blt ?ga18 rfl (by decide) rfl; (show nsIn (Mine.kk.heap_1 w.params) mainGlobals _ = _); k_dflt k_is
      case w1 => rw [show sh.length = 10 from f1]; rfl
      case w2 => exact bne_self_eq_false _
    case v2 =>
    refine' x_append (i := 0) (d := .int ((last % 4096 : Nat) : Int)) rfl ?x1 trivial (by rw [nat_len]; omega) rfl rfl rfl rfl ?x2
    case x1 =>
      refine' EV.int (ev_call ?t4 (.cons (ev_name rfl) rfl .nil) (f_rights f1)) (by rw [f3])
      case t4 => refine' GN.own ?ga19 ?gb19 ?gc19 ?gd19; (case ga19 => (show nsIn (Mine.kk.heap_1 w.params) mainGlobals _ = _); k_dflt k_is); (case gb19 => (show (Mine.kk.heap_1 w.params).lookup 146 = _); k_dflt k_is); (case gc19 => rfl); (case gd19 => rfl)
    case x2 =>
    rw [show nat ((answ m due).take i) ++ [Dat.int ((last % 4096 : Nat) : Int)] = nat ((answ m due).take i ++ [last % 4096]) by rw [nat_snoc]]
    have hlast : (nat ((answ m due).take i ++ [last % 4096]))[(nat ((answ m due).take i ++ [last % 4096])).length - 1]? = some (.int ((last % 4096 : Nat) : Int)) := by
      rw [nat_snoc, List.length_append, List.length_singleton, Nat.add_sub_cancel, List.getElem?_append_right (Nat.le_refl _), Nat.sub_self]; rfl
    refine' x_if (b := false) ?y1 (fun h => nomatch h) (fun _ => x_seq ?y2)
    case y1 =>
      refine' ET.to (et_cmp (ev_call ?t5 (.cons (EV.int (ev_call ?t6 (.cons (ev_name rfl) rfl .nil) f_imode) (and_rights last)) rfl .nil) (f_pretty (f := last % 4096) (by omega))) (ev_call ?t7 (.cons (ev_item (ev_name rfl) (ev_neg ev_int) (it_lastOf (by rw [nat_len, List.length_append, List.length_singleton]; omega) hlast)) rfl .nil) (f_words (f := last % 4096) (by omega))) co_nes) (bne_self_eq_false _)
      case t5 => refine' GN.own ?ga20 ?gb20 ?gc20 ?gd20; (case ga20 => (show nsIn (Mine.kk.heap_1 w.params) mainGlobals _ = _); k_dflt k_is); (case gb20 => (show (Mine.kk.heap_1 w.params).lookup 59 = _); k_dflt k_is); (case gc20 => rfl); (case gd20 => rfl)
      case t6 => refine' GN.own ?ga21 ?gb21 ?gc21 ?gd21; (case ga21 => (show nsIn (Mine.kk.heap_1 w.params) mainGlobals _ = _); k_dflt k_is); (case gb21 => (show (Mine.kk.heap_1 w.params).lookup 73 = _); k_dflt k_is); (case gc21 => rfl); (case gd21 => rfl)
      case t7 => refine' GN.own ?ga22 ?gb22 ?gc22 ?gd22; (case ga22 => (show nsIn (Mine.kk.heap_1 w.params) mainGlobals _ = _); k_dflt k_is); (case gb22 => (show (Mine.kk.heap_1 w.params).lookup 151 = _); k_dflt k_is); (case gc22 => rfl); (case gd22 => rfl)
    case y2 => exact x_nil fun s' S => S.forget ⟨rfl, rfl, rfl, rfl, rfl, trivial⟩
  case rest =>
    obtain ⟨hr1, hr2⟩ := hrun m hm
    have hal : (answ m due).length = 6 := rfl
    refine' x_freeze ?_
    refine' x_unpack_swap [Str.ofString "told", Str.ofString "behind"] (d := .tup [.int ((runF m due % 4096 : Nat) : Int), .int ((runF m due : Nat) : Int)]) ?a1 is_tup ?a2 rfl ?a3 ?a4 ?a5
    case a4 => rfl
    case a5 => rfl
    case a1 =>
      refine' ev_tuple (.cons (EV.int (ev_call ?b1 (.cons (ev_name rfl) rfl (.cons (ev_name rfl) rfl .nil)) (f_told (as := answ m due) (r := m % 4096) hal)) (by rw [htold])) rfl (.cons (ev_call ?b2 (.cons (ev_name rfl) rfl (.cons (ev_name rfl) rfl .nil)) (f_run (m := m) (ds := due))) rfl .nil)) (by simp)
      case b1 => refine' GN.own ?ga23 ?gb23 ?gc23 ?gd23; (case ga23 => (show nsIn (Mine.kk.heap_1 w.params) mainGlobals _ = _); k_dflt k_is); (case gb23 => (show (Mine.kk.heap_1 w.params).lookup 156 = _); k_dflt k_is); (case gc23 => rfl); (case gd23 => rfl)
      case b2 => refine' GN.own ?ga24 ?gb24 ?gc24 ?gd24; (case ga24 => (show nsIn (Mine.kk.heap_1 w.params) mainGlobals _ = _); k_dflt k_is); (case gb24 => (show (Mine.kk.heap_1 w.params).lookup 139 = _); k_dflt k_is); (case gc24 => rfl); (case gd24 => rfl)
    case a2 =>
      intro y hy
      simp only [List.mem_cons, List.mem_nil_iff, or_false] at hy
      rcases hy with rfl | rfl <;> exact ⟨.inl rfl, rfl⟩
    case a3 =>
    generalize runF m due = last at hr1 hr2
    obtain ⟨f1, f2, f3⟩ := F last hr1
    rw [hr2] at f2
    refine' x_assign (d := .str (fm ((last : Nat) : Int))) ?u1 ?u2 ?u3 ?u4 ?u5
    case u1 =>
      refine' ev_call ?t2 (.cons (ev_name rfl) rfl .nil) f_filemode
      case t2 => refine' GN.own ?ga25 ?gb25 ?gc25 ?gd25; (case ga25 => (show nsIn (Mine.kk.heap_1 w.params) mainGlobals _ = _); k_dflt k_is); (case gb25 => (show (Mine.kk.heap_1 w.params).lookup 120 = _); k_dflt k_is); (case gc25 => rfl); (case gd25 => rfl)
    case u2 => rfl
    case u3 => exact .inl rfl
    case u5 => rfl
    case u4 =>
    generalize fm ((last : Nat) : Int) = sh at f1 f2 f3
    have h0 : sh.cps[(0 : Int).toNat]? = some (signC (m / 4096)) := by
      rw [← f2]
      show sh.cps[0]? = _
      rw [Array.getElem?_eq_getElem (by omega), Array.getD_eq_getD_getElem?, Array.getElem?_eq_getElem (by omega)]; rfl
    refine' x_if (b := false) ?v1 (fun h => nomatch h) (fun _ => x_seq ?v2)
    case v1 =>
      refine' ET.to (et_or (b := false) (b' := false) (ET.to (et_cmp (ev_call ?t3 (.cons (ev_name rfl) rfl .nil) (fs_len_str (by show sh.cps.size ≤ _; omega))) ev_int co_ne) ?w1) fun _ => ET.to (et_or (b := false) (b' := false) (ET.to (et_cmp (ev_item (ev_name rfl) ev_int (it_str (by decide) (by decide) h0)) (ev_name rfl) co_nes) ?w2) fun _ => ET.to (et_or (b := false) (b' := false) (ET.to (et_cmp (ev_call ?t4 (.cons (ev_name rfl) rfl .nil) (f_rights f1)) (ev_name rfl) co_ne) ?w3) fun _ => et_or_nil) rfl) rfl) rfl
      case t3 => refine' GN.blt ?ga26 rfl (by decide) rfl; (show nsIn (Mine.kk.heap_1 w.params) mainGlobals _ = _); k_dflt k_is
      case t4 => refine' GN.own ?ga27 ?gb27 ?gc27 ?gd27; (case ga27 => (show nsIn (Mine.kk.heap_1 w.params) mainGlobals _ = _); k_dflt k_is); (case gb27 => (show (Mine.kk.heap_1 w.params).lookup 146 = _); k_dflt k_is); (case gc27 => rfl); (case gd27 => rfl)
      case w1 => rw [show sh.length = 10 from f1]; rfl
      case w2 => exact bne_self_eq_false _
      case w3 => rw [f3, bne_self_eq_false]
    case v2 =>
    refine' x_return (d := .bool true) (EV.to (ev_cmp (ev_call ?t5 (.cons (EV.int (ev_call ?t6 (.cons (ev_name rfl) rfl .nil) f_imode) (and_rights last)) rfl .nil) (f_pretty (f := last % 4096) (by omega))) (ev_call ?t7 (.cons (ev_name rfl) rfl .nil) (f_words (f := last % 4096) (by omega))) co_eqs) ?z1) (fun v h' β' t m r => hQ v h' β' t (hnx _ _ m) r)
    case t5 => refine' GN.own ?ga28 ?gb28 ?gc28 ?gd28; (case ga28 => (show nsIn (Mine.kk.heap_1 w.params) mainGlobals _ = _); k_dflt k_is); (case gb28 => (show (Mine.kk.heap_1 w.params).lookup 59 = _); k_dflt k_is); (case gc28 => rfl); (case gd28 => rfl)
    case t6 => refine' GN.own ?ga29 ?gb29 ?gc29 ?gd29; (case ga29 => (show nsIn (Mine.kk.heap_1 w.params) mainGlobals _ = _); k_dflt k_is); (case gb29 => (show (Mine.kk.heap_1 w.params).lookup 73 = _); k_dflt k_is); (case gc29 => rfl); (case gd29 => rfl)
    case t7 => refine' GN.own ?ga30 ?gb30 ?gc30 ?gd30; (case ga30 => (show nsIn (Mine.kk.heap_1 w.params) mainGlobals _ = _); k_dflt k_is); (case gb30 => (show (Mine.kk.heap_1 w.params).lookup 151 = _); k_dflt k_is); (case gc30 => rfl); (case gd30 => rfl)
    case z1 => rw [beq_self_eq_true]
end Mine


open PySem PySem.W PySem.W.X PyProof.Rows PySem.Calls PySem.Spec
set_option Elab.async false
namespace Mine
set_option maxRecDepth 100000
set_option maxHeartbeats 8000000
theorem warmF : ∀ w : World, (Mine.kk.heap_1 w.params, PySem.Challenge.rw_om0024_02.prog) = (Mine.kk.heap_1 w.params, PySem.Challenge.rw_om0024_02.prog) := by
  k_fill
  intro w; rfl
end Mine
open Mine
set_option maxRecDepth 100000 in
set_option maxHeartbeats 8000000 in
theorem PySem.Challenge.cw_om0024_02_holds : PySem.Challenge.rw_om0024_02.Holds := by
  w_on
  o_law
  refine holds_open (q := qv) (loose := lo) (Xt := xt) (XP := XL qv lv) (Yf := kH.obs) (Ya := kH.val) (YP := kH.says) (N := 2300) top_left kH.of kH.keeps (fun s e => xl_of s (Bool.and_eq_true_iff.mp e).1) XL.keeps (by rfl) (by rfl) (by rfl) (fun s e => recFacts_of (Bool.and_eq_true_iff.mp e).2) (by rfl) (by assumption) (by decide +kernel) ⟨rfl, rfl, rfl, rfl, rfl, by decide +kernel⟩ ?hw ?hc
  case hw => w_witness2
  case hc =>
    intro w s₀ s₁ mg mb G Y a o pm cd doc dV kV ho hd hcd hD hmg hg args vals as hpre hlay hrd hwl hlo
    have KX := kIn_of Y
    have hmg2 : mg (Str.ofString "law") = some (.ref a) := hmg
    clear hd hcd hD ho hmg
    wrow_args hpre hlay hrd hwl hlo
    rename_i ns _ _ _ _ _ _ _ l vs' _ _ _ hW _ _ _ hcond _
    have hb : Base (c1 w qv (looseW qv Mine.lo) (ExcName.means s₀.heap) mg mb) s₁.heap := ⟨KX, G.T⟩
    have e1 : nsIn (Mine.kk.heap_1 w.params) mainGlobals (Str.ofString "law") = some (some (.ref 161)) := by k_dflt k_is
    have e2 : mg (Str.ofString "law") = some (.ref 161) := mg_of hb.1 hb.2.g e1
    have ha : a = 161 := Value.ref.inj (Option.some.inj (hmg2.symm.trans e2))
    subst ha
    rw [ofPy_ints] at hW
    obtain ⟨l', vs, hl, ho, hWA⟩ := well_list hW
    injection hl with hl
    subst hl
    refine law_call (c := c1 w qv (looseW qv Mine.lo) (ExcName.means s₀.heap) mg mb) hb (f_law (k := 15) (by omega) (plain2 ns) fm_ok) ho (fun β => well_ints hWA) fun h' t kp => ?_
    refine ⟨.inl ⟨.bool true, .bool true, [], rfl, fun _ => rfl, .bool true, ?_, fun _ => ⟨List.nodup_nil, fun a ha => nomatch ha⟩⟩, .of_keep kp, rfl, .of_eq hg⟩
    exact postW_of (r := rw_om0024_02.row.toRowW) (by decide) (w_eq_bool (w_res rfl) w_lit) rfl

